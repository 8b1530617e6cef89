import Derived.Test.Qxb6003566aParts
namespace Go.Proofs.Qxb6003566a
open Go.RowKit

theorem Try.info2 : (Try.prog.info? 2).map (fun i => (i.zero, i.size, i.bytes)) = some (some (.int .i64 0), 1, 8) := by kernel_rfl

/-- WHAT IS KNOWN OF A SLICE OF n INTEGERS: where it is not empty it leads to a block that lies, and its cells hold z 0, z 1, .. -/
def Lies (w : World) (a : Option Addr) (n : Nat) (z : Nat → Int) : Prop :=
  0 < n → ∃ b o, a = some ⟨b, o, none⟩ ∧ b < w.heap.size ∧ ∀ i, i < n → w.cell? ⟨b, o + i, none⟩ = some (.int .i64 (z i))

/-- The new row, when k elements are copied. -/
def half (f : Nat → Int) (i : Nat) : Nat → Value := fun j => if j < i then .int .i64 (f j) else .int .i64 0

theorem half_step {w : World} {b t n i : Nat} {f : Nat → Int} (h : w.rowIs b t n (half f i)) : (w.setCell ⟨b, i, none⟩ (.int .i64 (f i))).rowIs b t n (half f (i + 1)) :=
  (h.set i _).congr fun j _ => by
    simp only [half]
    by_cases e : j = i
    · subst e; simp
    · rw [if_neg e]
      by_cases hl : j < i
      · rw [if_pos hl, if_pos (by omega)]
      · rw [if_neg hl, if_neg (by omega)]

theorem guard11 (w : World) (a : Option Addr) (n c : Nat) (x y : Int) (hn : n ≤ 1048576) :
    Calls Try.prog 11 #[.int .i64 x, .int .i64 y, .slice a n c] w fun e w' => e = .returned (.bool true) ∧ w' = w := by
  go_enter Try.func11, Try.ntmps11
  go_wp2
  go_ret
  exact ⟨rfl, rfl⟩
theorem guard11_no (w : World) (a : Option Addr) (n c : Nat) (x y : Int) (hn : 1048576 < n) :
    Calls Try.prog 11 #[.int .i64 x, .int .i64 y, .slice a n c] w fun e w' => e = .returned (.bool false) ∧ w' = w := by
  go_enter Try.func11, Try.ntmps11
  go_wp2
  go_ret
  exact ⟨rfl, rfl⟩

theorem script_far (w : World) (s c : Int) (a : Option Addr) (n cap : Nat) (hc : c ≤ 9223372036854775807) (h : 65536 < n ∨ c < 0 ∨ 9223372036854775807 - n < c) :
    Calls Try.prog 7 #[.int .i64 s, .int .i64 c, .slice a n cap] w fun e w' => e = .returned (.bool true) ∧ Below w.heap.size w w' := by
  by_cases h1 : 1048576 < n
  · go_enter Try.func7, Try.ntmps7
    go_wp2_with (go_at_call 11; refine (guard11_no _ _ _ _ _ _ h1).mono ?_; rintro e w' ⟨rfl, rfl⟩)
    go_ret
    exact ⟨rfl, Below.refl _ _⟩
  by_cases h2 : 65536 < n
  · go_enter Try.func7, Try.ntmps7
    go_wp2_with (go_at_call 11; refine (guard11 _ _ _ _ _ _ (by omega)).mono ?_; rintro e w' ⟨rfl, rfl⟩)
    go_ret
    exact ⟨rfl, Below.refl _ _⟩
  by_cases h3 : c < 0
  · go_enter Try.func7, Try.ntmps7
    go_wp2_with (go_at_call 11; refine (guard11 _ _ _ _ _ _ (by omega)).mono ?_; rintro e w' ⟨rfl, rfl⟩)
    go_ret
    exact ⟨rfl, Below.refl _ _⟩
  · have h4 : 9223372036854775807 - (n : Int) < c := by omega
    go_enter Try.func7, Try.ntmps7
    go_wp2_with (go_at_call 11; refine (guard11 _ _ _ _ _ _ (by omega)).mono ?_; rintro e w' ⟨rfl, rfl⟩)
    go_ret
    exact ⟨rfl, Below.refl _ _⟩

theorem script_nil (w : World) (s c : Int) (hc0 : 0 ≤ c) (hc : c ≤ 9223372036854775807) :
    Calls Try.prog 7 #[.int .i64 s, .int .i64 c, .slice none 0 0] w fun e w' => e = .returned (.bool true) ∧ Below w.heap.size w w' := by
  have hq := fun (w : World) (a : Option Addr) (n c : Nat) => run_neq_slice_nil_any (P := Try.prog) w 28 2 a n c 0 0 Try.underlying28
  go_enter Try.func7, Try.ntmps7
  go_wp2_with (go_at_call 11; refine (guard11 _ _ _ _ _ _ (by omega)).mono ?_; rintro e w' ⟨rfl, rfl⟩)
  refine wp_loop_rounds 1 ?_
  rw [rounds_succ]
  go_wp2
  go_ret
  exact ⟨rfl, Below.refl _ _⟩

theorem keep {w wr w1 : World} {B n : Nat} {F : Nat → Value} (hrow : wr.rowIs B 2 n F) (hbel : Below B w wr) (hf : Fresh wr w1) : w1.rowIs B 2 n F ∧ Below B w w1 :=
  ⟨hrow.of_block (hf.2.block B hrow.lt), hbel.trans (hf.2.mono (Nat.le_of_lt hrow.lt))⟩

set_option maxRecDepth 100000 in
set_option maxHeartbeats 1600000 in
theorem script_near (w : World) (s c : Int) (x : Addr) (n cap : Nat) (z : Nat → Int) (hn : n ≤ 65536) (hc0 : 0 ≤ c) (hc : c ≤ 9223372036854775807 - n) (hl : Lies w (some x) n z) :
    Calls Try.prog 7 #[.int .i64 s, .int .i64 c, .slice (some x) n cap] w fun e w' => e = .returned (.bool true) ∧ Below w.heap.size w w' := by
  have hq := fun (w : World) (a : Option Addr) (n c : Nat) => run_neq_slice_nil_any (P := Try.prog) w 28 2 a n c 0 0 Try.underlying28
  have hmk := run_make_row' (P := Try.prog) 28 2 (.int .i64 0) 8 Try.underlying28 Try.info2 rfl .i64 .i64 n (by omega) (by omega)
  go_enter Try.func7, Try.ntmps7
  go_wp2_with (go_at_call 11; refine (guard11 _ _ _ _ _ _ (by omega)).mono ?_; rintro e w' ⟨rfl, rfl⟩)
  have hr0 : (w'.alloc (.cells (madeCells #[.int .i64 0] n) 2)).rowIs w'.heap.size 2 n (half z 0) := (World.rowIs_made w' (.int .i64 0) n 2).congr fun j _ => by simp [half]
  clear hmk hq
  go_loopw [8] (fun i wr => ∃ k : Nat, k ≤ n ∧ i = .int .i64 k ∧ wr.rowIs w'.heap.size 2 n (half z k) ∧ Below w'.heap.size w' wr) (fun i _ => n - (intOf i).toNat)
  case atStart => exact ⟨0, Nat.zero_le _, rfl, hr0, (Below.refl _ _).alloc (Nat.le_refl _) _⟩
  case round =>
    obtain ⟨k, hk, rfl, hrow, hbel⟩ := hrel
    clear hr0
    by_cases hlt : k < n
    · obtain ⟨b, o, hx, hb, g⟩ := hl (by omega)
      obtain rfl : x = ⟨b, o, none⟩ := by simpa using hx
      have e1 : wr.cell? ⟨b, o + k, none⟩ = some (.int .i64 (z k)) := by rw [hbel.cell (p := ⟨b, o + k, none⟩) hb]; exact g k hlt
      have e2 := hrow.cell hlt
      have e3 := hrow.frozen k
      have hz : (k : Int) < (n : Int) := by omega
      have hbel' := hbel.setCell (p := ⟨w'.heap.size, k, none⟩) (Nat.le_refl _) (.int .i64 (z k))
      have X : Hid ((wr.setCell ⟨w'.heap.size, k, none⟩ (.int .i64 (z k))).rowIs w'.heap.size 2 n (half z (k + 1))) := half_step hrow
      clear g hx hl hrow
      go_wp2
      go_roundw
      case rel => exact ⟨k + 1, by omega, by go_num, X.out, hbel'⟩
      case measure => simp [intOf]; omega
    · obtain rfl : n = k := by omega
      have hrow2 : wr.rowIs w'.heap.size 2 n (fun i => .int .i64 (z i)) := hrow.congr fun j hj => by simp [half, hj]
      clear hrow hl
      go_wp2
      go_loopw [9, 10, 11, 12, 13] (fun vs vc vb vm vi wr => ∃ (k : Nat) (s c m : Int) (b : Bool), k ≤ n ∧ vs = .int .i64 s ∧ vc = .int .i64 c ∧ vb = .bool b ∧ vm = .int .i64 m ∧ vi = .int .i64 k ∧ 0 ≤ c ∧ c ≤ 9223372036854775807 - ((n - k : Nat) : Int) ∧ (b = true → m ≤ s) ∧ wr.rowIs w'.heap.size 2 n (fun i => .int .i64 (z i)) ∧ Below w'.heap.size w' wr) (fun _ _ _ _ i _ => n - (intOf i).toNat)
      case atStart => exact ⟨0, s, c, 0, false, Nat.zero_le _, rfl, rfl, rfl, rfl, rfl, hc0, by omega, by simp, hrow2, hbel⟩
      case round =>
        clear hrow2 hbel
        obtain ⟨k, t, d, m, b, hk, rfl, rfl, rfl, rfl, rfl, h0, h1, hm, hrow, hbel⟩ := hrel
        by_cases hlt : k < n
        · have e1 : wr.cell? ⟨w'.heap.size, k, none⟩ = some (.int .i64 (z k)) := hrow.cell hlt
          have hz : (k : Int) < (n : Int) := by omega
          cases b with
          | false =>
            clear hm
            by_cases hs : t < z k
            · go_wp2_with (first
                | (go_at_call 10; refine (ztick_ahead (z k) t d _ hs).mono ?_; rintro e w1 ⟨rfl, hf⟩)
                | (go_at_call 9; refine (lex_yes t d (z k) 0 _ (.inl hs)).mono ?_; rintro e w2 ⟨rfl, rfl⟩))
              go_roundw
              case rel => exact ⟨k + 1, z k, 0, z k, true, by omega, rfl, rfl, rfl, rfl, by go_num, by omega, by omega, fun _ => by omega, (keep hrow hbel hf).1, (keep hrow hbel hf).2⟩
              case measure => simp [intOf]; omega
            · go_wp2_with (first
                | (go_at_call 10; refine (ztick_on (z k) t d _ (by omega) h0 (by omega)).mono ?_; rintro e w1 ⟨rfl, hf⟩)
                | (go_at_call 9; refine (lex_yes t d t (d + 1) _ (by omega)).mono ?_; rintro e w2 ⟨rfl, rfl⟩))
              go_roundw
              case rel => exact ⟨k + 1, t, d + 1, z k, true, by omega, rfl, rfl, rfl, rfl, by go_num, by omega, by omega, fun _ => by omega, (keep hrow hbel hf).1, (keep hrow hbel hf).2⟩
              case measure => simp [intOf]; omega
          | true =>
            have hm' := hm rfl
            clear hm
            by_cases hmz : m < z k
            · by_cases hs : t < z k
              · go_wp2_with (first
                  | (go_at_call 10; refine (ztick_ahead (z k) t d _ hs).mono ?_; rintro e w1 ⟨rfl, hf⟩)
                  | (go_at_call 9; refine (lex_yes t d (z k) 0 _ (.inl hs)).mono ?_; rintro e w2 ⟨rfl, rfl⟩))
                go_roundw
                case rel => exact ⟨k + 1, z k, 0, z k, true, by omega, rfl, rfl, rfl, rfl, by go_num, by omega, by omega, fun _ => by omega, (keep hrow hbel hf).1, (keep hrow hbel hf).2⟩
                case measure => simp [intOf]; omega
              · go_wp2_with (first
                  | (go_at_call 10; refine (ztick_on (z k) t d _ (by omega) h0 (by omega)).mono ?_; rintro e w1 ⟨rfl, hf⟩)
                  | (go_at_call 9; refine (lex_yes t d t (d + 1) _ (by omega)).mono ?_; rintro e w2 ⟨rfl, rfl⟩))
                go_roundw
                case rel => exact ⟨k + 1, t, d + 1, z k, true, by omega, rfl, rfl, rfl, rfl, by go_num, by omega, by omega, fun _ => by omega, (keep hrow hbel hf).1, (keep hrow hbel hf).2⟩
                case measure => simp [intOf]; omega
            · go_wp2_with (first
                | (go_at_call 10; refine (ztick_on (z k) t d _ (by omega) h0 (by omega)).mono ?_; rintro e w1 ⟨rfl, hf⟩)
                | (go_at_call 9; refine (lex_yes t d t (d + 1) _ (by omega)).mono ?_; rintro e w2 ⟨rfl, rfl⟩))
              go_roundw
              case rel => exact ⟨k + 1, t, d + 1, m, true, by omega, rfl, rfl, rfl, rfl, by go_num, by omega, by omega, fun _ => by omega, (keep hrow hbel hf).1, (keep hrow hbel hf).2⟩
              case measure => simp [intOf]; omega
        · go_wp2
          go_ret
          exact ⟨rfl, hbel⟩
end Go.Proofs.Qxb6003566a
