import Derived.Test.Qxb6003566aProg
import Derived.WalkKit
import Derived.WalkSpells
import Derived.WalkSmall
import Derived.Below
import Derived.Deep.OwnRows
import Derived.Deep.QuietTactic
import Derived.BigQuiet
import Derived.RowKit3
namespace Go.Proofs.Qxb6003566a
open Go.RowKit

/-- A time of the hybrid clock, as the model has it. -/
abbrev Hl (s c : Int) : Value := .agg #[.int .i64 s, .int .i64 c]

theorem less_yes (ts tc us uc : Int) (w : World) (h : ts < us ∨ (ts = us ∧ tc < uc)) :
    Calls Try.prog 14 #[Hl ts tc, Hl us uc] w fun e w' => e = .returned (.bool true) ∧ w' = (w.alloc (.cells #[.int .i64 ts, .int .i64 tc] 31)).alloc (.cells #[.int .i64 us, .int .i64 uc] 31) := by
  by_cases g : ts < us
  · go_enter Try.func14, Try.ntmps14
    go_wp2
    go_ret
    exact ⟨rfl, rfl⟩
  · obtain ⟨rfl, g2⟩ : ts = us ∧ tc < uc := by omega
    go_enter Try.func14, Try.ntmps14
    go_wp2
    go_ret
    exact ⟨rfl, rfl⟩

theorem less_no (ts tc us uc : Int) (w : World) (h : us < ts ∨ (ts = us ∧ uc ≤ tc)) :
    Calls Try.prog 14 #[Hl ts tc, Hl us uc] w fun e w' => e = .returned (.bool false) ∧ w' = (w.alloc (.cells #[.int .i64 ts, .int .i64 tc] 31)).alloc (.cells #[.int .i64 us, .int .i64 uc] 31) := by
  by_cases g : us < ts
  · have hd : decide (ts < us) = false := by simp; omega
    go_enter Try.func14, Try.ntmps14
    go_wp2
    go_ret
    exact ⟨rfl, rfl⟩
  · obtain ⟨rfl, g2⟩ : ts = us ∧ uc ≤ tc := by omega
    have hd : decide (tc < uc) = false := by simp; omega
    go_enter Try.func14, Try.ntmps14
    go_wp2
    go_ret
    exact ⟨rfl, rfl⟩

/-- The world has at most new blocks. -/
def Fresh (w w' : World) : Prop := Grown w w' ∧ Below w.heap.size w w'
theorem Fresh.alloc {w w' : World} (h : Fresh w w') (c : Array Value) (t : TypeId) : Fresh w (w'.alloc (.cells c t)) := ⟨h.1.alloc _ _, h.2.alloc h.2.size _⟩
theorem Fresh.refl (w : World) : Fresh w w := ⟨Grown.refl _, Below.refl _ _⟩
theorem Fresh.drewN {w w' : World} (h : Fresh w w') (q : Nat) : Fresh w (w'.drewN q) := ⟨h.1, below_drewN h.2 q⟩
theorem Fresh.drew {w w' : World} (h : Fresh w w') : Fresh w w'.drew := ⟨h.1, h.2.drew⟩
theorem Fresh.setCell {w w' : World} (h : Fresh w w') {a : Addr} (ha : w.heap.size ≤ a.block) (v : Value) : Fresh w (w'.setCell a v) := ⟨h.1.setCell ha v, h.2.setCell ha v⟩
theorem keptBut_none_trans {a b c : World} (h : a.keptBut b (fun _ => False)) (k : b.keptBut c (fun _ => False)) : a.keptBut c (fun _ => False) :=
  World.keptBut_trans h k
theorem Fresh.trans {a b c : World} (h : Fresh a b) (k : Fresh b c) : Fresh a c :=
  ⟨⟨keptBut_none_trans h.1.1 k.1.1, fun x => (k.1.2.1 x).trans (h.1.2.1 x), Nat.le_trans h.1.2.2 k.1.2.2⟩, h.2.trans (k.2.mono h.2.size)⟩

theorem later_yes (ts tc us uc : Int) (w : World) (h : ts < us ∨ (ts = us ∧ tc < uc)) :
    Calls Try.prog 12 #[Hl ts tc, Hl us uc] w fun e w' => e = .returned (Hl us uc) ∧ Fresh w w' := by
  go_enter Try.func12, Try.ntmps12
  go_wp2_with (go_at_call 14; refine (less_yes ts tc us uc _ h).mono ?_; rintro e w' ⟨rfl, rfl⟩)
  simp [bodyPost, results, Try.results12, go_sem]
  exact (((((Fresh.refl _).alloc _ _).alloc _ _).alloc _ _).alloc _ _).alloc _ _

theorem later_no (ts tc us uc : Int) (w : World) (h : us < ts ∨ (ts = us ∧ uc ≤ tc)) :
    Calls Try.prog 12 #[Hl ts tc, Hl us uc] w fun e w' => e = .returned (Hl ts tc) ∧ Fresh w w' := by
  go_enter Try.func12, Try.ntmps12
  go_wp2_with (go_at_call 14; refine (less_no ts tc us uc _ h).mono ?_; rintro e w' ⟨rfl, rfl⟩)
  simp [bodyPost, results, Try.results12, go_sem]
  exact (((((Fresh.refl _).alloc _ _).alloc _ _).alloc _ _).alloc _ _).alloc _ _

theorem zlater_yes (ts tc us uc : Int) (w : World) (h : ts < us ∨ (ts = us ∧ tc < uc)) :
    Calls Try.prog 8 #[.int .i64 ts, .int .i64 tc, .int .i64 us, .int .i64 uc] w fun e w' => e = .returned (.tuple #[.int .i64 us, .int .i64 uc]) ∧ Fresh w w' := by
  go_enter Try.func8, Try.ntmps8
  go_wp2_with (go_at_call 12; refine (later_yes ts tc us uc _ h).mono ?_; rintro e w1 ⟨rfl, hf⟩)
  go_quiet (fail)
  go_wp2
  go_ret2
  exact ⟨rfl, (hf.alloc _ _).drewN _⟩

theorem zlater_no (ts tc us uc : Int) (w : World) (h : us < ts ∨ (ts = us ∧ uc ≤ tc)) :
    Calls Try.prog 8 #[.int .i64 ts, .int .i64 tc, .int .i64 us, .int .i64 uc] w fun e w' => e = .returned (.tuple #[.int .i64 ts, .int .i64 tc]) ∧ Fresh w w' := by
  go_enter Try.func8, Try.ntmps8
  go_wp2_with (go_at_call 12; refine (later_no ts tc us uc _ h).mono ?_; rintro e w1 ⟨rfl, hf⟩)
  go_quiet (fail)
  go_wp2
  go_ret2
  exact ⟨rfl, (hf.alloc _ _).drewN _⟩

theorem lex_yes (xs ac bs bc : Int) (w : World) (h : xs < bs ∨ (xs = bs ∧ ac < bc)) :
    Calls Try.prog 9 #[.int .i64 xs, .int .i64 ac, .int .i64 bs, .int .i64 bc] w fun e w' => e = .returned (.bool true) ∧ w' = w := by
  by_cases g : xs = bs
  · subst g
    have hd : decide (ac < bc) = true := by simp; omega
    go_enter Try.func9, Try.ntmps9
    go_wp2
    go_ret
    exact ⟨rfl, rfl⟩
  · have hd : decide (xs < bs) = true := by simp; omega
    go_enter Try.func9, Try.ntmps9
    go_wp2
    go_ret
    exact ⟨rfl, rfl⟩
theorem lex_no (xs ac bs bc : Int) (w : World) (h : bs < xs ∨ (xs = bs ∧ bc ≤ ac)) :
    Calls Try.prog 9 #[.int .i64 xs, .int .i64 ac, .int .i64 bs, .int .i64 bc] w fun e w' => e = .returned (.bool false) ∧ w' = w := by
  by_cases g : xs = bs
  · subst g
    have hd : decide (ac < bc) = false := by simp; omega
    go_enter Try.func9, Try.ntmps9
    go_wp2
    go_ret
    exact ⟨rfl, rfl⟩
  · have hd : decide (xs < bs) = false := by simp; omega
    go_enter Try.func9, Try.ntmps9
    go_wp2
    go_ret
    exact ⟨rfl, rfl⟩

theorem tick_ahead (C : Nat) (k s c : Int) (w : World) (h : s < k) (h0 : w.cell? ⟨C, 0, none⟩ = some (.int .i64 k)) (h1 : w.cell? ⟨C, 1, none⟩ = some (.int .i64 s)) (h2 : w.cell? ⟨C, 2, none⟩ = some (.int .i64 c)) (f1 : w.frozen? ⟨C, 1, none⟩ = false) (f2 : w.frozen? ⟨C, 2, none⟩ = false) :
    Calls Try.prog 13 #[.pointer (some ⟨C, 0, none⟩)] w fun e w' => e = .returned (.tuple #[]) ∧ w'.cell? ⟨C, 1, none⟩ = some (.int .i64 k) ∧ w'.cell? ⟨C, 2, none⟩ = some (.int .i64 0) ∧ ∃ q, w' = ((w.setCell ⟨C, 1, none⟩ (.int .i64 k)).setCell ⟨C, 2, none⟩ (.int .i64 0)).drewN q := by
  go_enter Try.func13, Try.ntmps13
  go_wp2
  go_quiet (fail)
  go_wp2
  refine bodyPost_ret (results_none rfl _ _ _) rfl ?_
  exact ⟨rfl, by simp [go_sem, h1], by simp [go_sem, h2], nq, rfl⟩
theorem tick_on (C : Nat) (k s c : Int) (w : World) (h : k ≤ s) (hc : 0 ≤ c) (hc2 : c < 9223372036854775807) (h0 : w.cell? ⟨C, 0, none⟩ = some (.int .i64 k)) (h1 : w.cell? ⟨C, 1, none⟩ = some (.int .i64 s)) (h2 : w.cell? ⟨C, 2, none⟩ = some (.int .i64 c)) (f2 : w.frozen? ⟨C, 2, none⟩ = false) :
    Calls Try.prog 13 #[.pointer (some ⟨C, 0, none⟩)] w fun e w' => e = .returned (.tuple #[]) ∧ w'.cell? ⟨C, 1, none⟩ = some (.int .i64 s) ∧ w'.cell? ⟨C, 2, none⟩ = some (.int .i64 (c + 1)) ∧ ∃ q, w' = (w.setCell ⟨C, 2, none⟩ (.int .i64 (c + 1))).drewN q := by
  go_enter Try.func13, Try.ntmps13
  go_wp2
  go_quiet (fail)
  go_wp2
  go_end0
  exact ⟨rfl, by simp [go_sem, h1], by simp [go_sem, h2], nq, rfl⟩

/-- ZZTick: the clock is ahead. -/
theorem ztick_ahead (k s c : Int) (w : World) (h : s < k) :
    Calls Try.prog 10 #[.int .i64 k, .int .i64 s, .int .i64 c] w fun e w' => e = .returned (.tuple #[.int .i64 k, .int .i64 0]) ∧ Fresh w w' := by
  go_enter Try.func10, Try.ntmps10
  go_wp2_with fail
  refine (tick_ahead _ k s c _ h (by simp) (by simp) (by simp) (by simp) (by simp)).mono ?_
  rintro e w1 ⟨rfl, c1, c2, q, hw1⟩
  have hf : Fresh w w1 := by
    rw [hw1]
    exact ((((Fresh.refl _).alloc _ _).setCell (Nat.le_refl _) _).setCell (Nat.le_refl _) _).drewN _
  clear hw1
  go_wp2
  go_quiet (fail)
  go_wp2
  go_ret2
  exact ⟨rfl, hf.drewN _⟩

/-- ZZTick: the clock is not ahead, and the counter can grow. -/
theorem ztick_on (k s c : Int) (w : World) (h : k ≤ s) (hc : 0 ≤ c) (hc2 : c < 9223372036854775807) :
    Calls Try.prog 10 #[.int .i64 k, .int .i64 s, .int .i64 c] w fun e w' => e = .returned (.tuple #[.int .i64 s, .int .i64 (c + 1)]) ∧ Fresh w w' := by
  go_enter Try.func10, Try.ntmps10
  go_wp2_with fail
  refine (tick_on _ k s c _ h hc hc2 (by simp) (by simp) (by simp) (by simp)).mono ?_
  rintro e w1 ⟨rfl, c1, c2, q, hw1⟩
  have hf : Fresh w w1 := by
    rw [hw1]
    exact (((Fresh.refl _).alloc _ _).setCell (Nat.le_refl _) _).drewN _
  clear hw1
  go_wp2
  go_quiet (fail)
  go_wp2
  go_ret2
  exact ⟨rfl, hf.drewN _⟩
end Go.Proofs.Qxb6003566a
