import Derived.Test.Qxb6604192aProg
import Derived.WalkKit
import Derived.WalkSpells
import Derived.WalkSmall
import Derived.WalkLawsBesides
import Derived.Below
import Derived.Deep.OwnRows
import Derived.Deep.QuietTactic
import Derived.BigQuiet
namespace Go.Proofs.Qxb6604192a
open Go.RowKit

theorem both_yes (p lo hi bl : Int) (w : World) (h : lo ≤ p ∧ p ≤ hi ∧ 1 ≤ p ∧ p ≤ bl) :
    Calls Try.prog 6 #[.int .i64 p, .int .i64 lo, .int .i64 hi, .int .i64 bl] w fun e w' => e = .returned (.bool true) ∧ w' = w := by
  obtain ⟨h1, h2, h3, h4⟩ := h
  go_enter Try.func6, Try.ntmps6
  go_wp2
  go_ret
  exact ⟨rfl, rfl⟩
theorem both_no (p lo hi bl : Int) (w : World) (h : p < lo ∨ hi < p ∨ p < 1 ∨ bl < p) :
    Calls Try.prog 6 #[.int .i64 p, .int .i64 lo, .int .i64 hi, .int .i64 bl] w fun e w' => e = .returned (.bool false) ∧ w' = w := by
  by_cases h1 : p < lo
  · go_enter Try.func6, Try.ntmps6
    go_wp2
    go_ret
    exact ⟨rfl, rfl⟩
  by_cases h2 : hi < p
  · go_enter Try.func6, Try.ntmps6
    go_wp2
    go_ret
    exact ⟨rfl, rfl⟩
  by_cases h3 : p < 1
  · go_enter Try.func6, Try.ntmps6
    go_wp2
    go_ret
    exact ⟨rfl, rfl⟩
  · have h4 : bl < p := by omega
    have h5 : decide (p ≤ bl) = false := by simp; omega
    go_enter Try.func6, Try.ntmps6
    go_wp2
    go_ret
    exact ⟨rfl, rfl⟩

/-- The span's two ends: the greater of lo and 1; the lesser of hi and blocks. -/
def Bot (lo bot : Int) : Prop := (lo < 1 ∧ bot = 1) ∨ (1 ≤ lo ∧ bot = lo)
def Top (hi bl top : Int) : Prop := (bl < hi ∧ top = bl) ∨ (hi ≤ bl ∧ top = hi)

theorem out_max (lo hi bl : Int) (w : World) (ht : Top hi bl 9223372036854775807) :
    Calls Try.prog 4 #[.int .i64 lo, .int .i64 hi, .int .i64 bl] w fun e w' => e = .returned (.bool true) ∧ w' = w := by
  rcases ht with ⟨h1, h2⟩ | ⟨h1, h2⟩ <;> subst h2
  all_goals
    go_enter Try.func4, Try.ntmps4
    go_wp2
    go_ret
    exact ⟨rfl, rfl⟩
theorem out_wide (lo hi bl bot top : Int) (w : World) (hb : Bot lo bot) (ht : Top hi bl top) (hm : top < 9223372036854775807) (h : 65536 ≤ top - bot) :
    Calls Try.prog 4 #[.int .i64 lo, .int .i64 hi, .int .i64 bl] w fun e w' => e = .returned (.bool true) ∧ w' = w := by
  have e1 : (top == 9223372036854775807) = false := by simp; omega
  have e2 : decide (65536 ≤ top - bot) = true := by simpa using h
  rcases hb with ⟨h1, h2⟩ | ⟨h1, h2⟩ <;> subst h2 <;> rcases ht with ⟨h3, h4⟩ | ⟨h3, h4⟩ <;> subst h4
  all_goals
    go_enter Try.func4, Try.ntmps4
    go_wp2
    go_ret
    exact ⟨rfl, rfl⟩
theorem out_none (lo hi bl bot top : Int) (w : World) (hb : Bot lo bot) (ht : Top hi bl top) (hm : top < 9223372036854775807) (h : top < bot) :
    Calls Try.prog 4 #[.int .i64 lo, .int .i64 hi, .int .i64 bl] w fun e w' => e = .returned (.bool false) ∧ w' = w := by
  have e1 : (top == 9223372036854775807) = false := by simp; omega
  rcases hb with ⟨h1, h2⟩ | ⟨h1, h2⟩ <;> subst h2 <;> rcases ht with ⟨h3, h4⟩ | ⟨h3, h4⟩ <;> subst h4
  all_goals
    go_enter Try.func4, Try.ntmps4
    go_wp2
    go_ret
    exact ⟨rfl, rfl⟩
theorem out_small (lo hi bl bot top : Int) (w : World) (hb : Bot lo bot) (ht : Top hi bl top) (hm : top < 9223372036854775807) (h0 : bot ≤ top) (h : top - bot < 65536) :
    Calls Try.prog 4 #[.int .i64 lo, .int .i64 hi, .int .i64 bl] w fun e w' => e = .returned (.bool false) ∧ w' = w := by
  have e1 : (top == 9223372036854775807) = false := by simp; omega
  have e2 : decide (65536 ≤ top - bot) = false := by simp; omega
  rcases hb with ⟨h1, h2⟩ | ⟨h1, h2⟩ <;> subst h2 <;> rcases ht with ⟨h3, h4⟩ | ⟨h3, h4⟩ <;> subst h4
  all_goals
    go_enter Try.func4, Try.ntmps4
    go_wp2
    go_ret
    exact ⟨rfl, rfl⟩

theorem Try.info3 : (Try.prog.info? 3).map (fun i => (i.zero, i.size, i.bytes)) = some (some (.int .i64 0), 1, 8) := by kernel_rfl

/-- bot, bot + 1, .. : k of them. -/
def run (bot : Int) (k : Nat) : List Value := (List.range k).map fun (i : Nat) => .int .i64 (bot + (i : Int))
theorem run_succ (bot : Int) (k : Nat) : run bot (k + 1) = run bot k ++ [.int .i64 (bot + (k : Int))] := by simp [run, List.range_succ]
theorem run_at (bot : Int) (k i : Nat) (h : i < k) : (run bot k)[i]? = some (.int .i64 (bot + (i : Int))) := by simp [run, h]

theorem one_new (w : World) (x : Value) (t : TypeId) : ∀ j u, [x][j]? = some u → (w.alloc (.cells #[x] t)).cell? ((⟨w.heap.size, 0, none⟩ : Addr).add j) = some u := by
  intro j u hj
  match j, hj with
  | 0, hj => simp at hj; subst hj; simp [Addr.add]
  | j + 1, hj => simp at hj

set_option maxRecDepth 100000 in
set_option maxHeartbeats 1600000 in
theorem span_any (lo hi bl bot top : Int) (m : Nat) (w : World) (hb : Bot lo bot) (ht : Top hi bl top) (hm : top < 9223372036854775807) (h : (m : Int) = top - bot + 1 ∨ (m = 0 ∧ top < bot)) (hsm : m ≤ 65536) :
    Calls Try.prog 7 #[.int .i64 lo, .int .i64 hi, .int .i64 bl] w fun e w' => ∃ v, e = .returned v ∧ w'.ownsRow w.heap.size 3 1 v m (run bot m) ∧ Below w.heap.size w w' ∧ (m = 0 → v = .slice none 0 0) := by
  obtain ⟨i0, hi0, hz0, hz1, hz2⟩ := info_parts Try.info3
  have hb1 : 1 ≤ bot := by rcases hb with ⟨_, e⟩ | ⟨_, e⟩ <;> omega
  have H1 : ∀ k : Nat, k < m → bot + (k : Int) ≤ top := fun k hk => by omega
  have H2 : top < bot + (m : Int) := by omega
  clear h
  rcases hb with ⟨h1, h2⟩ | ⟨h1, h2⟩ <;> subst h2 <;> rcases ht with ⟨h3, h4⟩ | ⟨h3, h4⟩ <;> subst h4
  · go_enter Try.func7, Try.ntmps7
    go_wp2
    go_loopw [7, 8] (fun v i wr => ∃ k : Nat, k ≤ m ∧ i = .int .i64 (1 + (k : Int)) ∧ wr.ownsRow w.heap.size 3 1 v k (run 1 k) ∧ Below w.heap.size w wr ∧ (k = 0 → v = .slice none 0 0)) (fun _ i _ => (1 + (m : Int) - intOf i).toNat)
    case atStart => exact ⟨0, Nat.zero_le _, rfl, World.ownsRow_nil _ _ _ _, Below.refl _ _, fun _ => rfl⟩
    case round =>
      obtain ⟨k, hk, rfl, hown, hbel, hnil⟩ := hrel
      by_cases hlt : k < m
      · have t1 := H1 k hlt
        clear H1 H2
        go_wp2_with (at_builtin; refine wpList_append_own _ rfl _ _ 23 rfl w.heap.size 3 i0 (.int .i64 0) 1 8 Try.underlying23 hi0 hz0 hz1 hz2 rfl (by decide) _ _ _ rfl (hown.alloc _) ⟨wr.heap.size, 0, none⟩ 1 1 [.int .i64 (1 + (k : Int))] rfl rfl (one_new _ _ _) ?c2 ?c3 ?c4 ?c5 ?_)
        case c2 => intro u hu; simp at hu; subst hu; rfl
        case c3 => unfold maxLen; omega
        case c4 => omega
        case c5 => have := hbel.size; simp; omega
        · intro v' w1 hown' hgrow _
          rw [← run_succ] at hown'
          have hbel' : Below w.heap.size w w1 := (hbel.alloc hbel.size _).grown hgrow (by have := hbel.size; simp; omega) (fun j hj => (hown.lt j hj).1)
          clear hown hgrow hbel hnil
          go_wp2
          go_roundw
          case rel => exact ⟨k + 1, by omega, by go_num, hown', hbel', by omega⟩
          case measure => simp [intOf]; omega
      · obtain rfl : m = k := by omega
        clear H1
        go_wp2
        go_ret
        exact ⟨_, rfl, hown, hbel, hnil⟩
  · go_enter Try.func7, Try.ntmps7
    go_wp2
    go_loopw [7, 8] (fun v i wr => ∃ k : Nat, k ≤ m ∧ i = .int .i64 (1 + (k : Int)) ∧ wr.ownsRow w.heap.size 3 1 v k (run 1 k) ∧ Below w.heap.size w wr ∧ (k = 0 → v = .slice none 0 0)) (fun _ i _ => (1 + (m : Int) - intOf i).toNat)
    case atStart => exact ⟨0, Nat.zero_le _, rfl, World.ownsRow_nil _ _ _ _, Below.refl _ _, fun _ => rfl⟩
    case round =>
      obtain ⟨k, hk, rfl, hown, hbel, hnil⟩ := hrel
      by_cases hlt : k < m
      · have t1 := H1 k hlt
        clear H1 H2
        go_wp2_with (at_builtin; refine wpList_append_own _ rfl _ _ 23 rfl w.heap.size 3 i0 (.int .i64 0) 1 8 Try.underlying23 hi0 hz0 hz1 hz2 rfl (by decide) _ _ _ rfl (hown.alloc _) ⟨wr.heap.size, 0, none⟩ 1 1 [.int .i64 (1 + (k : Int))] rfl rfl (one_new _ _ _) ?c2 ?c3 ?c4 ?c5 ?_)
        case c2 => intro u hu; simp at hu; subst hu; rfl
        case c3 => unfold maxLen; omega
        case c4 => omega
        case c5 => have := hbel.size; simp; omega
        · intro v' w1 hown' hgrow _
          rw [← run_succ] at hown'
          have hbel' : Below w.heap.size w w1 := (hbel.alloc hbel.size _).grown hgrow (by have := hbel.size; simp; omega) (fun j hj => (hown.lt j hj).1)
          clear hown hgrow hbel hnil
          go_wp2
          go_roundw
          case rel => exact ⟨k + 1, by omega, by go_num, hown', hbel', by omega⟩
          case measure => simp [intOf]; omega
      · obtain rfl : m = k := by omega
        clear H1
        go_wp2
        go_ret
        exact ⟨_, rfl, hown, hbel, hnil⟩
  · go_enter Try.func7, Try.ntmps7
    go_wp2
    go_loopw [7, 8] (fun v i wr => ∃ k : Nat, k ≤ m ∧ i = .int .i64 (bot + (k : Int)) ∧ wr.ownsRow w.heap.size 3 1 v k (run bot k) ∧ Below w.heap.size w wr ∧ (k = 0 → v = .slice none 0 0)) (fun _ i _ => (bot + (m : Int) - intOf i).toNat)
    case atStart => exact ⟨0, Nat.zero_le _, (by simp), World.ownsRow_nil _ _ _ _, Below.refl _ _, fun _ => rfl⟩
    case round =>
      obtain ⟨k, hk, rfl, hown, hbel, hnil⟩ := hrel
      by_cases hlt : k < m
      · have t1 := H1 k hlt
        clear H1 H2
        go_wp2_with (at_builtin; refine wpList_append_own _ rfl _ _ 23 rfl w.heap.size 3 i0 (.int .i64 0) 1 8 Try.underlying23 hi0 hz0 hz1 hz2 rfl (by decide) _ _ _ rfl (hown.alloc _) ⟨wr.heap.size, 0, none⟩ 1 1 [.int .i64 (bot + (k : Int))] rfl rfl (one_new _ _ _) ?c2 ?c3 ?c4 ?c5 ?_)
        case c2 => intro u hu; simp at hu; subst hu; rfl
        case c3 => unfold maxLen; omega
        case c4 => omega
        case c5 => have := hbel.size; simp; omega
        · intro v' w1 hown' hgrow _
          rw [← run_succ] at hown'
          have hbel' : Below w.heap.size w w1 := (hbel.alloc hbel.size _).grown hgrow (by have := hbel.size; simp; omega) (fun j hj => (hown.lt j hj).1)
          clear hown hgrow hbel hnil
          go_wp2
          go_roundw
          case rel => exact ⟨k + 1, by omega, by go_num, hown', hbel', by omega⟩
          case measure => simp [intOf]; omega
      · obtain rfl : m = k := by omega
        clear H1
        go_wp2
        go_ret
        exact ⟨_, rfl, hown, hbel, hnil⟩
  · go_enter Try.func7, Try.ntmps7
    go_wp2
    go_loopw [7, 8] (fun v i wr => ∃ k : Nat, k ≤ m ∧ i = .int .i64 (bot + (k : Int)) ∧ wr.ownsRow w.heap.size 3 1 v k (run bot k) ∧ Below w.heap.size w wr ∧ (k = 0 → v = .slice none 0 0)) (fun _ i _ => (bot + (m : Int) - intOf i).toNat)
    case atStart => exact ⟨0, Nat.zero_le _, (by simp), World.ownsRow_nil _ _ _ _, Below.refl _ _, fun _ => rfl⟩
    case round =>
      obtain ⟨k, hk, rfl, hown, hbel, hnil⟩ := hrel
      by_cases hlt : k < m
      · have t1 := H1 k hlt
        clear H1 H2
        go_wp2_with (at_builtin; refine wpList_append_own _ rfl _ _ 23 rfl w.heap.size 3 i0 (.int .i64 0) 1 8 Try.underlying23 hi0 hz0 hz1 hz2 rfl (by decide) _ _ _ rfl (hown.alloc _) ⟨wr.heap.size, 0, none⟩ 1 1 [.int .i64 (bot + (k : Int))] rfl rfl (one_new _ _ _) ?c2 ?c3 ?c4 ?c5 ?_)
        case c2 => intro u hu; simp at hu; subst hu; rfl
        case c3 => unfold maxLen; omega
        case c4 => omega
        case c5 => have := hbel.size; simp; omega
        · intro v' w1 hown' hgrow _
          rw [← run_succ] at hown'
          have hbel' : Below w.heap.size w w1 := (hbel.alloc hbel.size _).grown hgrow (by have := hbel.size; simp; omega) (fun j hj => (hown.lt j hj).1)
          clear hown hgrow hbel hnil
          go_wp2
          go_roundw
          case rel => exact ⟨k + 1, by omega, by go_num, hown', hbel', by omega⟩
          case measure => simp [intOf]; omega
      · obtain rfl : m = k := by omega
        clear H1
        go_wp2
        go_ret
        exact ⟨_, rfl, hown, hbel, hnil⟩

theorem zspan_any (lo hi bl bot top : Int) (m : Nat) (w : World) (hb : Bot lo bot) (ht : Top hi bl top) (hm : top < 9223372036854775807) (h : (m : Int) = top - bot + 1 ∨ (m = 0 ∧ top < bot)) (hsm : m ≤ 65536) :
    Calls Try.prog 5 #[.int .i64 lo, .int .i64 hi, .int .i64 bl] w fun e w' => ∃ v, e = .returned v ∧ w'.ownsRow w.heap.size 3 1 v m (run bot m) ∧ Below w.heap.size w w' ∧ (m = 0 → v = .slice none 0 0) := by
  go_enter Try.func5, Try.ntmps5
  go_wp2_with fail
  refine (span_any lo hi bl bot top m _ hb ht hm h hsm).mono ?_
  rintro e w1 ⟨v, rfl, ho, hbel, hnil⟩
  go_wp2
  go_ret
  exact ⟨v, rfl, ho, hbel, hnil⟩
end Go.Proofs.Qxb6604192a
