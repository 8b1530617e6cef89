import Derived.Test.Qxb6604192aParts
namespace Go.Proofs.Qxb6604192a
open Go.RowKit

theorem law_out (lo hi bl : Int) (w : World) (h : Calls Try.prog 4 #[.int .i64 lo, .int .i64 hi, .int .i64 bl] w fun e w' => e = .returned (.bool true) ∧ w' = w) :
    Calls Try.prog 3 #[.int .i64 lo, .int .i64 hi, .int .i64 bl] w fun e w' => e = .returned (.bool true) ∧ Below w.heap.size w w' := by
  have H := h
  clear h
  go_enter Try.func3, Try.ntmps3
  go_wp2_with (go_at_call 4; refine H.mono ?_; rintro e w' ⟨rfl, rfl⟩)
  go_ret
  exact ⟨rfl, Below.refl _ _⟩

theorem law_none (lo hi bl bot top : Int) (w : World) (hb : Bot lo bot) (ht : Top hi bl top) (hm : top < 9223372036854775807) (h : top < bot) :
    Calls Try.prog 3 #[.int .i64 lo, .int .i64 hi, .int .i64 bl] w fun e w' => e = .returned (.bool true) ∧ Below w.heap.size w w' := by
  have hq := fun (w : World) (a : Option Addr) (n c : Nat) => Lib.run_eql_slice_nil (P := Try.prog) w 23 3 a n c 0 0 Try.underlying23
  have fin : hi < lo ∨ bl < 1 ∨ hi < 1 ∨ bl < lo := by
    rcases hb with ⟨_, rfl⟩ | ⟨_, rfl⟩ <;> rcases ht with ⟨_, rfl⟩ | ⟨_, rfl⟩ <;> omega
  have H1 := fun w => out_none lo hi bl bot top w hb ht hm h
  have H2 := fun w => zspan_any lo hi bl bot top 0 w hb ht hm (.inr ⟨rfl, h⟩) (by omega)
  have K1 : Hid (∀ w, Calls Try.prog 4 #[.int .i64 lo, .int .i64 hi, .int .i64 bl] w fun e w' => e = .returned (.bool false) ∧ w' = w) := H1
  have K2 : Hid (∀ w, Calls Try.prog 5 #[.int .i64 lo, .int .i64 hi, .int .i64 bl] w fun e w' => e = .returned (.slice none 0 0) ∧ Below w.heap.size w w') := fun w => (H2 w).mono fun e w' ⟨v, he, _, hbel, hn⟩ => ⟨by rw [he, hn rfl], hbel⟩
  clear H1 H2 hb ht hm h
  by_cases c1 : hi < lo
  · go_enter Try.func3, Try.ntmps3
    go_wp2_with (first
      | (go_at_call 4; refine (K1.out _).mono ?_; rintro e w' ⟨rfl, rfl⟩)
      | (go_at_call 5; refine (K2.out _).mono ?_; rintro e w' ⟨rfl, hbel⟩))
    go_ret
    exact ⟨rfl, hbel⟩
  by_cases c2 : bl < 1
  · go_enter Try.func3, Try.ntmps3
    go_wp2_with (first
      | (go_at_call 4; refine (K1.out _).mono ?_; rintro e w' ⟨rfl, rfl⟩)
      | (go_at_call 5; refine (K2.out _).mono ?_; rintro e w' ⟨rfl, hbel⟩))
    go_ret
    exact ⟨rfl, hbel⟩
  by_cases c3 : hi < 1
  · go_enter Try.func3, Try.ntmps3
    go_wp2_with (first
      | (go_at_call 4; refine (K1.out _).mono ?_; rintro e w' ⟨rfl, rfl⟩)
      | (go_at_call 5; refine (K2.out _).mono ?_; rintro e w' ⟨rfl, hbel⟩))
    go_ret
    exact ⟨rfl, hbel⟩
  · have c4 : bl < lo := by omega
    go_enter Try.func3, Try.ntmps3
    go_wp2_with (first
      | (go_at_call 4; refine (K1.out _).mono ?_; rintro e w' ⟨rfl, rfl⟩)
      | (go_at_call 5; refine (K2.out _).mono ?_; rintro e w' ⟨rfl, hbel⟩))
    go_ret
    exact ⟨rfl, hbel⟩

set_option maxRecDepth 100000 in
set_option maxHeartbeats 1600000 in
theorem law_some (lo hi bl bot top : Int) (m : Nat) (w : World) (hb : Bot lo bot) (ht : Top hi bl top) (hm : top < 9223372036854775807) (h : (m : Int) = top - bot + 1) (h1 : 1 ≤ m) (hsm : m ≤ 65536) :
    Calls Try.prog 3 #[.int .i64 lo, .int .i64 hi, .int .i64 bl] w fun e w' => e = .returned (.bool true) ∧ Below w.heap.size w w' := by
  have K1 : Hid (∀ w, Calls Try.prog 4 #[.int .i64 lo, .int .i64 hi, .int .i64 bl] w fun e w' => e = .returned (.bool false) ∧ w' = w) := fun w => out_small lo hi bl bot top w hb ht hm (by omega) (by omega)
  have K2 : Hid (∀ w, Calls Try.prog 5 #[.int .i64 lo, .int .i64 hi, .int .i64 bl] w fun e w' => ∃ v, e = .returned v ∧ w'.ownsRow w.heap.size 3 1 v m (run bot m) ∧ Below w.heap.size w w' ∧ (m = 0 → v = .slice none 0 0)) := fun w => zspan_any lo hi bl bot top m w hb ht hm (.inl h) hsm
  have f1 : lo ≤ bot := by rcases hb with ⟨_, e⟩ | ⟨_, e⟩ <;> omega
  have f2 : 1 ≤ bot := by rcases hb with ⟨_, e⟩ | ⟨_, e⟩ <;> omega
  have f3 : bot ≤ lo ∨ bot ≤ 1 := by rcases hb with ⟨_, e⟩ | ⟨_, e⟩ <;> omega
  have f4 : top ≤ hi := by rcases ht with ⟨_, e⟩ | ⟨_, e⟩ <;> omega
  have f5 : top ≤ bl := by rcases ht with ⟨_, e⟩ | ⟨_, e⟩ <;> omega
  have f6 : hi ≤ top ∨ bl ≤ top := by rcases ht with ⟨_, e⟩ | ⟨_, e⟩ <;> omega
  have f7 : bot + (m : Int) ≤ top + 1 := by omega
  have f8 : top + 1 ≤ bot + (m : Int) := by omega
  clear hb ht h
  have g1 : ¬ hi < lo := by omega
  have g2 : ¬ bl < 1 := by omega
  have g3 : ¬ hi < 1 := by omega
  have g4 : ¬ bl < lo := by omega
  have g5 : ((m : Int) == 0) = false := by simp; omega
  go_enter Try.func3, Try.ntmps3
  go_wp2_with fail
  refine (K1.out _).mono ?_
  rintro e w' ⟨rfl, rfl⟩
  go_wp2_with fail
  refine (K2.out _).mono ?_
  rintro e w1 ⟨v, rfl, ho, hbel, _⟩
  have hex : ∃ g cap, v = .slice (some ⟨g, 0, none⟩) m cap := by
    rcases ho.2 with ⟨_, h0⟩ | ⟨g, cap, cur, hv, _⟩
    · omega
    · exact ⟨g, cap, hv⟩
  obtain ⟨g, cap, hv⟩ := hex
  have HC : Hid (∀ j, j < m → w1.cell? ⟨g, j, none⟩ = some (.int .i64 (bot + (j : Int)))) := fun j hj => by
    rw [hv] at ho
    rw [ho.cellAt j (by omega)]
    exact run_at bot m j hj
  rw [hv]
  clear hv ho K1 K2
  go_wp2
  go_loop [8] (fun i => ∃ k : Nat, k ≤ m ∧ i = .int .i64 k) (fun i => m - (intOf i).toNat)
  case atStart => exact ⟨0, Nat.zero_le _, rfl⟩
  case round =>
    obtain ⟨k, hk, rfl⟩ := hrel
    by_cases hlt : k < m
    · have e1 := HC.out k hlt
      have hz : (k : Int) < (m : Int) := by omega
      by_cases k0 : k = 0
      · subst k0
        go_wp2_with (go_at_call 6; refine (both_yes _ lo hi bl _ (by omega)).mono ?_; rintro e w2 ⟨rfl, rfl⟩)
        go_round
        case rel => exact ⟨1, by omega, rfl⟩
        case measure => simp [intOf]; omega
      · obtain ⟨j, rfl⟩ : ∃ j, k = j + 1 := ⟨k - 1, by omega⟩
        have e2 := HC.out j (by omega)
        go_wp2_with (go_at_call 6; refine (both_yes _ lo hi bl _ (by omega)).mono ?_; rintro e w2 ⟨rfl, rfl⟩)
        go_round
        case rel => exact ⟨j + 1 + 1, by omega, by go_num⟩
        case measure => simp [intOf]; omega
    · obtain ⟨n, rfl⟩ : ∃ n, m = n + 1 := ⟨m - 1, by omega⟩
      have e1 := HC.out 0 (by omega)
      have e2 := HC.out n (by omega)
      go_wp2_with fail
      refine (both_no _ lo hi bl _ (by omega)).mono ?_
      rintro e w2 ⟨rfl, rfl⟩
      go_wp2_with fail
      refine (both_no _ lo hi bl _ (by omega)).mono ?_
      rintro e w2 ⟨rfl, rfl⟩
      go_wp2
      go_ret
      exact ⟨rfl, hbel⟩

theorem law_any (lo hi bl : Int) (w : World) (h1 : hi ≤ 9223372036854775807) (h2 : bl ≤ 9223372036854775807) :
    Calls Try.prog 3 #[.int .i64 lo, .int .i64 hi, .int .i64 bl] w fun e w' => e = .returned (.bool true) ∧ Below w.heap.size w w' := by
  obtain ⟨bot, hb⟩ : ∃ bot, Bot lo bot := by
    by_cases g : lo < 1
    · exact ⟨1, .inl ⟨g, rfl⟩⟩
    · exact ⟨lo, .inr ⟨by omega, rfl⟩⟩
  obtain ⟨top, ht⟩ : ∃ top, Top hi bl top := by
    by_cases g : bl < hi
    · exact ⟨bl, .inl ⟨g, rfl⟩⟩
    · exact ⟨hi, .inr ⟨by omega, rfl⟩⟩
  have hle : top ≤ 9223372036854775807 := by rcases ht with ⟨_, e⟩ | ⟨_, e⟩ <;> omega
  by_cases g1 : top = 9223372036854775807
  · rw [g1] at ht
    exact law_out lo hi bl w (out_max lo hi bl w ht)
  by_cases g2 : 65536 ≤ top - bot
  · exact law_out lo hi bl w (out_wide lo hi bl bot top w hb ht (by omega) g2)
  by_cases g3 : top < bot
  · exact law_none lo hi bl bot top w hb ht (by omega) g3
  · exact law_some lo hi bl bot top (top - bot + 1).toNat w hb ht (by omega) (by omega) (by omega) (by omega)
end Go.Proofs.Qxb6604192a
