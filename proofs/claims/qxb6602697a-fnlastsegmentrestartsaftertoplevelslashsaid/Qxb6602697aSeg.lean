import Derived.Test.Qxb6602697aProg
import Derived.Test.Qxb6602697aPlain
import Derived.WalkKit
import Derived.WalkSpells
import Derived.WalkSmall
import Derived.Below
import Derived.Deep.OwnRows
import Derived.Deep.QuietTactic
import Derived.BigQuiet
import Derived.Lib.OthersKept
namespace Go.Proofs.Qxb6602697a
open Go.RowKit

/-- What the three are ahead of byte pos. -/
def Tri (s : ByteArray) (pos : Nat) (a b d : Int) : Prop := St s pos = a ∧ Co s pos = b ∧ D s pos = d

theorem tri_step {s : ByteArray} {pos r wd : Nat} {a b d : Int} (t : Tri s pos a b d) (h : pos < s.size) (hr : (Utf8.decode s pos).1 = r) (hw : (Utf8.decode s pos).2 = wd) :
    Tri s (pos + wd) (if r = 47 ∧ d = 0 then (pos : Int) + 1 else a) (if r = 47 ∧ d = 0 then -1 else if r = 58 ∧ d = 0 then (pos : Int) else b) (if r = 123 then d + 1 else if r = 125 then d - 1 else d) := by
  obtain ⟨rfl, rfl, rfl⟩ := t
  obtain ⟨_, _, h1, h2, h3⟩ := rune_step s pos r wd h hr hw
  exact ⟨h2, h3, h1⟩

set_option maxRecDepth 100000 in
set_option maxHeartbeats 1600000 in
theorem seg_any (x s y : ByteArray) (w : World) (hs : s.size ≤ 4194304) :
    Calls Try.prog 19 #[.agg #[.string x, .string s, .string y]] w fun e w' => e = .returned (.tuple #[.int .i64 (St s s.size), .int .i64 (Co s s.size)]) ∧ Below w.heap.size w w' := by
  go_enter Try.func19, Try.ntmps19
  go_wp2
  have hst : ((w.alloc (.cells #[.string x, .string s, .string y] 30)).iter s 0).heap[w.heap.size + 1]? = some (.stringIter s 0) := by
    have := World.iter_heap (w.alloc (.cells #[.string x, .string s, .string y] 30)) s 0
    simpa using this
  have hbst : Below w.heap.size w ((w.alloc (.cells #[.string x, .string s, .string y] 30)).iter s 0) := ((Below.refl _ _).alloc (Nat.le_refl _) _).alloc (by simp) _
  go_loopw [2, 3, 4] (fun va vb vd wr => ∃ (pos : Nat) (a b d : Int), pos ≤ s.size ∧ wr.heap[w.heap.size + 1]? = some (.stringIter s pos) ∧ Below w.heap.size w wr ∧ va = .int .i64 a ∧ vb = .int .i64 b ∧ vd = .int .i64 d ∧ Tri s pos a b d) (fun _ _ _ wr => s.size - wr.iterPos (w.heap.size + 1))
  case atStart => exact ⟨0, 0, -1, 0, Nat.zero_le _, hst, hbst, rfl, rfl, rfl, rfl, rfl, rfl⟩
  case round =>
    clear hst hbst
    obtain ⟨pos, a, b, d, hple, hit, hbw, rfl, rfl, rfl, ht⟩ := hrel
    have hpos0 := iterPos_of hit
    by_cases hp : pos < s.size
    · have hnx : ∀ ty, (Instr.next (.pointer (some ⟨w.heap.size + 1, 0, none⟩)) true ty).run Try.prog wr = _ := fun ty => Lib.run_next_any_at wr (w.heap.size + 1) s pos ty hit hp
      obtain ⟨r, hr⟩ : ∃ r, (Utf8.decode s pos).1 = r := ⟨_, rfl⟩
      obtain ⟨wd, hw⟩ : ∃ wd, (Utf8.decode s pos).2 = wd := ⟨_, rfl⟩
      have T : Hid (Tri s (pos + wd) (if r = 47 ∧ d = 0 then (pos : Int) + 1 else a) (if r = 47 ∧ d = 0 then -1 else if r = 58 ∧ d = 0 then (pos : Int) else b) (if r = 123 then d + 1 else if r = 125 then d - 1 else d)) := tri_step ht hp hr hw
      have hdb : -(pos : Int) ≤ d ∧ d ≤ pos := by have := D_le s pos; rw [ht.2.2] at this; exact this
      obtain ⟨d1, d2⟩ := hdb
      obtain ⟨q1, q2, _⟩ := rune_step s pos r wd hp hr hw
      rw [hr, hw] at hnx
      have hit2 := Lib.iterAt_heap wr (w.heap.size + 1) s pos (pos + wd) hit
      have hbw2 := Lib.below_iterAt hbw (k := w.heap.size + 1) (by omega) s (pos + wd)
      obtain ⟨W1, hW1⟩ : ∃ W1, W1 = wr.iterAt (w.heap.size + 1) s (pos + wd) := ⟨_, rfl⟩
      rw [← hW1] at hnx hit2 hbw2
      clear hW1 hit hbw ht hr hw
      by_cases e1 : r = 123
      · subst e1
        go_wp2
        go_roundw
        case rel => exact ⟨pos + wd, a, b, d + 1, by omega, hit2, hbw2, rfl, rfl, rfl, by simpa [*] using T.out⟩
        case measure => rw [iterPos_of hit2, hpos0]; omega
      by_cases e2 : r = 125
      · subst e2
        go_wp2
        go_roundw
        case rel => exact ⟨pos + wd, a, b, d - 1, by omega, hit2, hbw2, rfl, rfl, rfl, by simpa [*] using T.out⟩
        case measure => rw [iterPos_of hit2, hpos0]; omega
      by_cases e3 : r = 47
      · subst e3
        by_cases e5 : d = 0
        · subst e5
          go_wp2
          go_roundw
          case rel => exact ⟨pos + wd, (pos : Int) + 1, -1, 0, by omega, hit2, hbw2, rfl, rfl, rfl, by simpa [*] using T.out⟩
          case measure => rw [iterPos_of hit2, hpos0]; omega
        · have e6 : (d == 0) = false := by simpa using e5
          go_wp2
          go_roundw
          case rel => exact ⟨pos + wd, a, b, d, by omega, hit2, hbw2, rfl, rfl, rfl, by simpa [*] using T.out⟩
          case measure => rw [iterPos_of hit2, hpos0]; omega
      by_cases e4 : r = 58
      · subst e4
        by_cases e5 : d = 0
        · subst e5
          go_wp2
          go_roundw
          case rel => exact ⟨pos + wd, a, (pos : Int), 0, by omega, hit2, hbw2, rfl, rfl, rfl, by simpa [*] using T.out⟩
          case measure => rw [iterPos_of hit2, hpos0]; omega
        · have e6 : (d == 0) = false := by simpa using e5
          go_wp2
          go_roundw
          case rel => exact ⟨pos + wd, a, b, d, by omega, hit2, hbw2, rfl, rfl, rfl, by simpa [*] using T.out⟩
          case measure => rw [iterPos_of hit2, hpos0]; omega
      · have n1 : ¬ (r : Int) = 123 := by omega
        have n2 : ¬ (r : Int) = 125 := by omega
        have n3 : ¬ (r : Int) = 47 := by omega
        have n4 : ¬ (r : Int) = 58 := by omega
        go_wp2
        go_roundw
        case rel => exact ⟨pos + wd, a, b, d, by omega, hit2, hbw2, rfl, rfl, rfl, by simpa [*] using T.out⟩
        case measure => rw [iterPos_of hit2, hpos0]; omega
    · have hnx : ∀ ty, (Instr.next (.pointer (some ⟨w.heap.size + 1, 0, none⟩)) true ty).run Try.prog wr = _ := fun ty => Lib.run_next_end_at wr (w.heap.size + 1) s pos ty hit hp
      obtain rfl : pos = s.size := by omega
      obtain ⟨rfl, rfl, rfl⟩ := ht
      go_wp2
      go_ret2
      exact ⟨rfl, hbw⟩

theorem zseg_any (x s y : ByteArray) (w : World) (hs : s.size ≤ 4194304) :
    Calls Try.prog 9 #[.string x, .string s, .string y] w fun e w' => e = .returned (.tuple #[.int .i64 (St s s.size), .int .i64 (Co s s.size)]) ∧ Below w.heap.size w w' := by
  go_enter Try.func9, Try.ntmps9
  go_wp2_with (go_at_call 19; refine (seg_any x s y _ hs).mono ?_; rintro e w1 ⟨rfl, hb⟩)
  go_ret2
  exact ⟨rfl, hb⟩

theorem guard8 (x s y : ByteArray) (w : World) (h : x.size + s.size + y.size ≤ 1048576) :
    Calls Try.prog 8 #[.string x, .string s, .string y] w fun e w' => e = .returned (.bool true) ∧ w' = w := by
  go_enter Try.func8, Try.ntmps8
  go_wp2
  go_ret
  exact ⟨rfl, rfl⟩
theorem guard8_no (x s y : ByteArray) (w : World) (h : 1048576 < x.size + s.size + y.size) (h1 : x.size ≤ 9223372036854775807) (h2 : s.size ≤ 9223372036854775807) (h3 : y.size ≤ 9223372036854775807) :
    Calls Try.prog 8 #[.string x, .string s, .string y] w fun e w' => e = .returned (.bool false) ∧ w' = w := by
  by_cases g1 : 1048576 < x.size
  · go_enter Try.func8, Try.ntmps8
    go_wp2
    go_ret
    exact ⟨rfl, rfl⟩
  by_cases g2 : 1048576 < s.size
  · go_enter Try.func8, Try.ntmps8
    go_wp2
    go_ret
    exact ⟨rfl, rfl⟩
  by_cases g3 : 1048576 < x.size + s.size
  · go_enter Try.func8, Try.ntmps8
    go_wp2
    go_ret
    exact ⟨rfl, rfl⟩
  by_cases g4 : 1048576 < y.size
  · go_enter Try.func8, Try.ntmps8
    go_wp2
    go_ret
    exact ⟨rfl, rfl⟩
  · go_enter Try.func8, Try.ntmps8
    go_wp2
    go_ret
    exact ⟨rfl, rfl⟩

theorem guard11 (x p q y : ByteArray) (w : World) (h : x.size + p.size + q.size + y.size ≤ 1048576) :
    Calls Try.prog 11 #[.string x, .string p, .string q, .string y] w fun e w' => e = .returned (.bool true) ∧ w' = w := by
  go_enter Try.func11, Try.ntmps11
  go_wp2
  go_ret
  exact ⟨rfl, rfl⟩
theorem guard11_no (x p q y : ByteArray) (w : World) (h : 1048576 < x.size + p.size + q.size + y.size) (h1 : x.size ≤ 9223372036854775807) (h2 : p.size ≤ 9223372036854775807) (h3 : q.size ≤ 9223372036854775807) (h4 : y.size ≤ 9223372036854775807) :
    Calls Try.prog 11 #[.string x, .string p, .string q, .string y] w fun e w' => e = .returned (.bool false) ∧ w' = w := by
  by_cases g1 : 1048576 < x.size
  · go_enter Try.func11, Try.ntmps11
    go_wp2
    go_ret
    exact ⟨rfl, rfl⟩
  by_cases g2 : 1048576 < p.size
  · go_enter Try.func11, Try.ntmps11
    go_wp2
    go_ret
    exact ⟨rfl, rfl⟩
  by_cases g3 : 1048576 < x.size + p.size
  · go_enter Try.func11, Try.ntmps11
    go_wp2
    go_ret
    exact ⟨rfl, rfl⟩
  by_cases g4 : 1048576 < q.size
  · go_enter Try.func11, Try.ntmps11
    go_wp2
    go_ret
    exact ⟨rfl, rfl⟩
  by_cases g5 : 1048576 < x.size + p.size + q.size
  · go_enter Try.func11, Try.ntmps11
    go_wp2
    go_ret
    exact ⟨rfl, rfl⟩
  by_cases g6 : 1048576 < y.size
  · go_enter Try.func11, Try.ntmps11
    go_wp2
    go_ret
    exact ⟨rfl, rfl⟩
  · go_enter Try.func11, Try.ntmps11
    go_wp2
    go_ret
    exact ⟨rfl, rfl⟩
end Go.Proofs.Qxb6602697a
