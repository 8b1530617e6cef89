import Derived.Test.Qxb6602697aSeg
import Derived.Test.Qxb6602697aShift
namespace Go.Proofs.Qxb6602697a
open Go.RowKit

set_option maxHeartbeats 800000 in
theorem brace_any (s : ByteArray) (w : World) (hs : s.size ≤ 4194304) :
    Calls Try.prog 12 #[.string s] w fun e w' => w' = w ∧ (e = .returned (.bool true) ∨ (e = .returned (.bool false) ∧ ∀ k, k < s.size → bt s k ≠ 123 ∧ bt s k ≠ 125)) := by
  go_enter Try.func12, Try.ntmps12
  go_wp2
  go_loop [3] (fun i => ∃ k : Nat, k ≤ s.size ∧ i = .int .i64 k ∧ Hid (∀ j, j < k → bt s j ≠ 123 ∧ bt s j ≠ 125)) (fun i => s.size - (intOf i).toNat)
  case atStart => exact ⟨0, Nat.zero_le _, rfl, fun j hj => absurd hj (by omega)⟩
  case round =>
    obtain ⟨k, hk, rfl, hno⟩ := hrel
    by_cases hlt : k < s.size
    · have hz : (k : Int) < (s.size : Int) := by omega
      obtain ⟨c, hc⟩ : ∃ c, (s[k]'hlt).toNat = c := ⟨_, rfl⟩
      have hb : Hid (bt s k = c) := (bt_at s k hlt).trans hc
      by_cases c1 : c = 123
      · subst c1
        go_wp2
        go_ret
        exact ⟨rfl, .inl rfl⟩
      by_cases c2 : c = 125
      · subst c2
        go_wp2
        go_ret
        exact ⟨rfl, .inl rfl⟩
      · have n1 : ((c : Int) == 123) = false := by simp; omega
        have n2 : ((c : Int) == 125) = false := by simp; omega
        go_wp2
        go_round
        case rel => exact ⟨k + 1, by omega, by go_num, fun j hj => by
          by_cases e : j = k
          · subst e; rw [hb.out]; exact ⟨c1, c2⟩
          · exact hno.out j (by omega)⟩
        case measure => simp [intOf]; omega
    · obtain rfl : k = s.size := by omega
      go_wp2
      go_ret
      exact ⟨rfl, .inr ⟨rfl, hno.out⟩⟩

set_option maxHeartbeats 800000 in
theorem restart_walk (x p q y : ByteArray) (w : World) (h1 : x.size ≤ 9223372036854775807) (h2 : p.size ≤ 9223372036854775807) (h3 : q.size ≤ 9223372036854775807) (h4 : y.size ≤ 9223372036854775807) :
    Calls Try.prog 4 #[.string x, .string p, .string q, .string y] w fun e w' => e = .returned (.bool true) ∧ Below w.heap.size w w' := by
  by_cases g : 1048576 < x.size + p.size + q.size + y.size
  · go_enter Try.func4, Try.ntmps4
    go_wp2_with (go_at_call 11; refine (guard11_no x p q y _ g h1 h2 h3 h4).mono ?_; rintro e w' ⟨rfl, rfl⟩)
    go_ret
    exact ⟨rfl, Below.refl _ _⟩
  · clear h1 h2 h3 h4
    have g1 : x.size ≤ 1048576 := by omega
    have g2 : p.size ≤ 1048576 := by omega
    have g3 : q.size ≤ 1048576 := by omega
    have g4 : y.size ≤ 1048576 := by omega
    have g5 : (x.size : Int) + p.size + q.size + y.size ≤ 1048576 := by omega
    have g6 : x.size + p.size + q.size + y.size ≤ 1048576 := by omega
    clear g
    go_enter Try.func4, Try.ntmps4
    go_wp2_with fail
    refine (guard11 x p q y _ g6).mono ?_
    rintro e w' ⟨rfl, rfl⟩
    go_wp2_with fail
    refine (brace_any p _ (by omega)).mono ?_
    rintro e w1 ⟨rfl, rfl | ⟨rfl, hno⟩⟩
    · go_wp2
      go_ret
      exact ⟨rfl, Below.refl _ _⟩
    · have L := path_law p q hno
      have hsz := path_size p q
      have B1 := St_le q q.size
      have B2 := Co_le q q.size
      have HP := fun w => zseg_any x (p ++ slash ++ q) y w (by omega)
      have HQ := fun w => zseg_any x q y w (by omega)
      rw [L.1, L.2] at HP
      clear L hsz hno
      obtain ⟨a, ha⟩ : ∃ a, St q q.size = a := ⟨_, rfl⟩
      obtain ⟨c, hc⟩ : ∃ c, Co q q.size = c := ⟨_, rfl⟩
      rw [ha] at HP HQ B1
      rw [hc] at HP HQ B2
      obtain ⟨b1, b2⟩ := B1
      obtain ⟨b3, b4⟩ := B2
      have KP := HP
      clear ha hc HP
      have KQ : Hid (∀ w, Calls Try.prog 9 #[.string x, .string q, .string y] w fun e w' => e = .returned (.tuple #[.int .i64 a, .int .i64 c]) ∧ Below w.heap.size w w') := HQ
      clear HQ
      by_cases c0 : 0 ≤ c
      · have KP2 : Hid (∀ w, Calls Try.prog 9 #[.string x, .string (p ++ (⟨#[47]⟩ : ByteArray) ++ q), .string y] w fun e w' => e = .returned (.tuple #[.int .i64 ((p.size : Int) + 1 + a), .int .i64 ((p.size : Int) + 1 + c)]) ∧ Below w.heap.size w w') := by
          have := KP
          unfold sh at this
          rw [if_pos c0] at this
          exact this
        clear KP
        go_wp2_with fail
        refine (KP2.out _).mono ?_
        rintro e w2 ⟨rfl, hb2⟩
        go_wp2_with fail
        refine (KQ.out _).mono ?_
        rintro e w3 ⟨rfl, hb3⟩
        go_wp2
        go_ret
        exact ⟨rfl, hb2.trans (hb3.mono hb2.size)⟩
      · have KP2 : Hid (∀ w, Calls Try.prog 9 #[.string x, .string (p ++ (⟨#[47]⟩ : ByteArray) ++ q), .string y] w fun e w' => e = .returned (.tuple #[.int .i64 ((p.size : Int) + 1 + a), .int .i64 (-1)]) ∧ Below w.heap.size w w') := by
          have := KP
          unfold sh at this
          rw [if_neg c0] at this
          exact this
        clear KP
        go_wp2_with fail
        refine (KP2.out _).mono ?_
        rintro e w2 ⟨rfl, hb2⟩
        go_wp2_with fail
        refine (KQ.out _).mono ?_
        rintro e w3 ⟨rfl, hb3⟩
        go_wp2
        go_ret
        exact ⟨rfl, hb2.trans (hb3.mono hb2.size)⟩
end Go.Proofs.Qxb6602697a
