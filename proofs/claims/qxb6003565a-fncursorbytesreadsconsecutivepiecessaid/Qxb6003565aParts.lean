import Derived.Test.Qxb6003565aProg
import Derived.WalkKit
import Derived.WalkSpells
import Derived.Below
import Derived.Deep.OwnRows
import Derived.Deep.QuietTactic
import Derived.BigQuiet
namespace Go.Proofs.Qxb6003565a
open Go.RowKit

/-- WHAT IS KNOWN OF A SLICE OF n INTEGERS: where it is not empty it leads to a block below B, and its cells hold f 0, f 1, .. -/
def Lies (w : World) (B : Nat) (k : IntKind) (a : Option Addr) (n : Nat) (f : Nat → Int) : Prop :=
  0 < n → ∃ b o, a = some ⟨b, o, none⟩ ∧ b < B ∧ ∀ i, i < n → w.cell? ⟨b, o + i, none⟩ = some (.int k (f i))

theorem Lies.below {w w' : World} {B : Nat} {k : IntKind} {a : Option Addr} {n : Nat} {f : Nat → Int} (h : Lies w B k a n f) (hb : Below B w w') : Lies w' B k a n f := by
  intro hn
  obtain ⟨b, o, rfl, hlt, hc⟩ := h hn
  exact ⟨b, o, rfl, hlt, fun i hi => by rw [hb.cell (p := ⟨b, o + i, none⟩) hlt]; exact hc i hi⟩

theorem Lies.mono {w : World} {B B' : Nat} {k : IntKind} {a : Option Addr} {n : Nat} {f : Nat → Int} (h : Lies w B k a n f) (hb : B ≤ B') : Lies w B' k a n f := by
  intro hn
  obtain ⟨b, o, rfl, hlt, hc⟩ := h hn
  exact ⟨b, o, rfl, by omega, hc⟩

theorem Lies.drewN {w : World} {B : Nat} {k : IntKind} {a : Option Addr} {n : Nat} {f : Nat → Int} (h : Lies w B k a n f) (q : Nat) : Lies (w.drewN q) B k a n f := h

/-- sameBytesMrtB2 over two slices that hold the same. -/
theorem same_any (w : World) (B1 B2 : Nat) (a1 a2 : Option Addr) (n c1 c2 : Nat) (f : Nat → Int) (hn : n ≤ 1048576) (h1 : Lies w B1 .u8 a1 n f) (h2 : Lies w B2 .u8 a2 n f) :
    Calls Try.prog 13 #[.slice a1 n c1, .slice a2 n c2] w fun e w' => e = .returned (.bool true) ∧ ∃ q, w' = w.drewN q := by
  go_enter Try.func13, Try.ntmps13
  go_wp2
  go_loopw [5] (fun i wr => ∃ k : Nat, k ≤ n ∧ i = .int .i64 k ∧ ∃ q, wr = w.drewN q) (fun i _ => n - (intOf i).toNat)
  case atStart => exact ⟨0, Nat.zero_le _, rfl, 0, rfl⟩
  case round =>
    obtain ⟨k, hk, rfl, q, rfl⟩ := hrel
    by_cases hlt : k < n
    · obtain ⟨b1, o1, rfl, _, g1⟩ := h1 (by omega)
      obtain ⟨b2, o2, rfl, _, g2⟩ := h2 (by omega)
      have e1 := g1 k hlt
      have e2 := g2 k hlt
      have hz : (k : Int) < (n : Int) := by omega
      clear h1 h2 g1 g2
      go_wp2
      go_quiet (fail)
      go_wp2
      go_roundw
      case rel => exact ⟨k + 1, by omega, by go_num, _, rfl⟩
      case measure => simp [intOf]; omega
    · go_wp2
      go_ret
      exact ⟨rfl, q, rfl⟩

/-- ZZMrtB2NewCursor. -/
theorem new_any (w : World) (a : Option Addr) (n c : Nat) (s : Bool) :
    Calls Try.prog 11 #[.slice a n c, .bool s] w fun e w' => e = .returned (.pointer (some ⟨w.heap.size, 0, none⟩)) ∧ w' = w.alloc (.cells #[.slice a n c, .bool s] 40) := by
  go_enter Try.func11, Try.ntmps11
  go_wp2
  go_ret
  exact ⟨rfl, rfl⟩

theorem short_any (w : World) (C : Nat) (s : Bool) (h : w.cell? ⟨C, 1, none⟩ = some (.bool s)) :
    Calls Try.prog 14 #[.pointer (some ⟨C, 0, none⟩)] w fun e w' => e = .returned (.bool s) ∧ w' = w := by
  go_enter Try.func14, Try.ntmps14
  go_wp2
  go_ret
  exact ⟨rfl, rfl⟩

theorem rest_any (w : World) (C : Nat) (a : Option Addr) (n c : Nat) (h : w.cell? ⟨C, 0, none⟩ = some (.slice a n c)) :
    Calls Try.prog 15 #[.pointer (some ⟨C, 0, none⟩)] w fun e w' => e = .returned (.slice a n c) ∧ w' = w := by
  go_enter Try.func15, Try.ntmps15
  go_wp2
  go_ret
  exact ⟨rfl, rfl⟩

/-- bytes at a cursor that is short already. -/
theorem bytes_short (w : World) (C : Nat) (n : Int) (h1 : w.cell? ⟨C, 1, none⟩ = some (.bool true)) (hf : w.frozen? ⟨C, 1, none⟩ = false) :
    Calls Try.prog 12 #[.pointer (some ⟨C, 0, none⟩), .int .i64 n] w fun e w' => e = .returned (.slice none 0 0) ∧ w' = w.setCell ⟨C, 1, none⟩ (.bool true) := by
  go_enter Try.func12, Try.ntmps12
  go_wp2
  go_ret
  exact ⟨rfl, rfl⟩

/-- bytes past the end. -/
theorem bytes_past (w : World) (C : Nat) (a : Option Addr) (m : Nat) (n : Int) (hn : (m : Int) < n) (h0 : w.cell? ⟨C, 0, none⟩ = some (.slice a m m)) (h1 : w.cell? ⟨C, 1, none⟩ = some (.bool false)) (hf : w.frozen? ⟨C, 1, none⟩ = false) :
    Calls Try.prog 12 #[.pointer (some ⟨C, 0, none⟩), .int .i64 n] w fun e w' => e = .returned (.slice none 0 0) ∧ w' = w.setCell ⟨C, 1, none⟩ (.bool true) := by
  go_enter Try.func12, Try.ntmps12
  go_wp2
  go_ret
  exact ⟨rfl, rfl⟩

/-- bytes within what is left. -/
theorem bytes_ok (w : World) (C : Nat) (a : Option Addr) (m n : Nat) (hm : m ≤ 1048576) (hn : n ≤ m) (h0 : w.cell? ⟨C, 0, none⟩ = some (.slice a m m)) (h1 : w.cell? ⟨C, 1, none⟩ = some (.bool false)) (hf : w.frozen? ⟨C, 0, none⟩ = false) :
    Calls Try.prog 12 #[.pointer (some ⟨C, 0, none⟩), .int .i64 n] w fun e w' => ∃ a1 a2, e = .returned (.slice a1 n n) ∧ w' = w.setCell ⟨C, 0, none⟩ (.slice a2 (m - n) (m - n)) ∧ (0 < n → a1 = a) ∧ (n < m → a2 = a.map (·.add n)) := by
  have hz : (n : Int) ≤ (m : Int) := by omega
  by_cases e1 : n = 0
  · subst e1
    by_cases e2 : m = 0
    · subst e2
      go_enter Try.func12, Try.ntmps12
      go_wp2
      go_ret
      exact ⟨_, a, rfl, by simp, by simp, by simp⟩
    · go_enter Try.func12, Try.ntmps12
      go_wp2
      go_ret
      exact ⟨_, a, rfl, rfl, by simp, fun _ => by cases a <;> simp [Addr.add]⟩
  · by_cases e2 : m = n
    · subst e2
      go_enter Try.func12, Try.ntmps12
      go_wp2
      go_ret
      exact ⟨_, a, rfl, by simp, by simp, by simp⟩
    · go_enter Try.func12, Try.ntmps12
      go_wp2
      go_ret
      exact ⟨_, _, rfl, rfl, by simp, by simp⟩

theorem Try.info5 : (Try.prog.info? 5).map (fun i => (i.zero, i.size, i.bytes)) = some (some (.int .u8 0), 1, 1) := by kernel_rfl
theorem Try.info3 : (Try.prog.info? 3).map (fun i => (i.zero, i.size, i.bytes)) = some (some (.int .i64 0), 1, 8) := by kernel_rfl

/-- The new row, when k elements are copied. -/
def half (k : IntKind) (f : Nat → Int) (i : Nat) : Nat → Value := fun j => if j < i then .int k (f j) else .int k 0

theorem half_step {w : World} {b t n i : Nat} {k : IntKind} {f : Nat → Int} (h : w.rowIs b t n (half k f i)) : (w.setCell ⟨b, i, none⟩ (.int k (f i))).rowIs b t n (half k f (i + 1)) :=
  (h.set i _).congr fun j _ => by
    simp only [half]
    by_cases e : j = i
    · subst e; simp
    · rw [if_neg e]
      by_cases hl : j < i
      · rw [if_pos hl, if_pos (by omega)]
      · rw [if_neg hl, if_neg (by omega)]

/-- WHAT A CLONE IS: nil stays nil; the rest lies in a new block. -/
def Cloned (k : IntKind) (w w' : World) (a0 a : Option Addr) (n : Nat) (f : Nat → Int) : Prop :=
  Below w.heap.size w w' ∧ (a0 = none → a = none) ∧ Lies w' w'.heap.size k a n f

theorem clone_any (w : World) (B : Nat) (a0 : Option Addr) (n c : Nat) (f : Nat → Int) (hn : n ≤ 1048576) (hB : B ≤ w.heap.size) (h0 : Lies w B .u8 a0 n f) (hnil : a0 = none → n = 0) :
    Calls Try.prog 9 #[.slice a0 n c] w fun e w' => ∃ a, e = .returned (.slice a n n) ∧ Cloned .u8 w w' a0 a n f := by
  have hq := fun (w : World) (a : Option Addr) (n c : Nat) => Lib.run_eql_slice_nil (P := Try.prog) w 22 5 a n c 0 0 Try.underlying22
  cases a0 with
  | none =>
    obtain rfl := hnil rfl
    go_enter Try.func9, Try.ntmps9
    go_wp2
    go_ret
    exact ⟨none, rfl, Below.refl _ _, fun _ => rfl, fun h => absurd h (by omega)⟩
  | some x =>
    have hmk := run_make_row' (P := Try.prog) 22 5 (.int .u8 0) 1 Try.underlying22 Try.info5 rfl .i64 .i64 n (by omega) (by omega)
    go_enter Try.func9, Try.ntmps9
    go_wp2
    have hr0 : (w.alloc (.cells (madeCells #[.int .u8 0] n) 5)).rowIs w.heap.size 5 n (half .u8 f 0) := (World.rowIs_made w (.int .u8 0) n 5).congr fun j _ => by simp [half]
    clear hmk hq
    go_loopw [4] (fun i wr => ∃ k : Nat, k ≤ n ∧ i = .int .i64 k ∧ wr.heap.size = w.heap.size + 1 ∧ wr.rowIs w.heap.size 5 n (half .u8 f k) ∧ Below w.heap.size w wr) (fun i _ => n - (intOf i).toNat)
    case atStart => exact ⟨0, Nat.zero_le _, rfl, by simp, hr0, (Below.refl _ _).alloc (Nat.le_refl _) _⟩
    case round =>
      obtain ⟨k, hk, rfl, hsz, hrow, hbel⟩ := hrel
      clear hr0
      by_cases hlt : k < n
      · obtain ⟨b, o, hx, hb, g⟩ := h0 (by omega)
        obtain rfl : x = ⟨b, o, none⟩ := by simpa using hx
        have e1 : wr.cell? ⟨b, o + k, none⟩ = some (.int .u8 (f k)) := by rw [hbel.cell (p := ⟨b, o + k, none⟩) (by show b < _; omega)]; exact g k hlt
        have e2 := hrow.cell hlt
        have e3 := hrow.frozen k
        have hz : (k : Int) < (n : Int) := by omega
        have hrow' := half_step hrow
        have hbel' := hbel.setCell (p := ⟨w.heap.size, k, none⟩) (Nat.le_refl _) (.int .u8 (f k))
        have X : Hid ((wr.setCell ⟨w.heap.size, k, none⟩ (.int .u8 (f k))).rowIs w.heap.size 5 n (half .u8 f (k + 1))) := hrow'
        clear g hx h0 hrow hrow'
        go_wp2
        go_roundw
        case rel => exact ⟨k + 1, by omega, by go_num, by simp [hsz], X.out, hbel'⟩
        case measure => simp [intOf]; omega
      · obtain rfl : k = n := by omega
        go_wp2
        go_ret
        refine ⟨_, rfl, hbel, by simp, fun hn => ⟨_, _, rfl, by omega, fun i hi => ?_⟩⟩
        rw [Nat.zero_add, hrow.cell hi]
        simp [half, hi]
theorem cloneInts_any (w : World) (B : Nat) (a0 : Option Addr) (n c : Nat) (f : Nat → Int) (hn : n ≤ 1048576) (hB : B ≤ w.heap.size) (h0 : Lies w B .i64 a0 n f) (hnil : a0 = none → n = 0) :
    Calls Try.prog 10 #[.slice a0 n c] w fun e w' => ∃ a, e = .returned (.slice a n n) ∧ Cloned .i64 w w' a0 a n f := by
  have hq := fun (w : World) (a : Option Addr) (n c : Nat) => Lib.run_eql_slice_nil (P := Try.prog) w 23 3 a n c 0 0 Try.underlying23
  cases a0 with
  | none =>
    obtain rfl := hnil rfl
    go_enter Try.func10, Try.ntmps10
    go_wp2
    go_ret
    exact ⟨none, rfl, Below.refl _ _, fun _ => rfl, fun h => absurd h (by omega)⟩
  | some x =>
    have hmk := run_make_row' (P := Try.prog) 23 3 (.int .i64 0) 8 Try.underlying23 Try.info3 rfl .i64 .i64 n (by omega) (by omega)
    go_enter Try.func10, Try.ntmps10
    go_wp2
    have hr0 : (w.alloc (.cells (madeCells #[.int .i64 0] n) 3)).rowIs w.heap.size 3 n (half .i64 f 0) := (World.rowIs_made w (.int .i64 0) n 3).congr fun j _ => by simp [half]
    clear hmk hq
    go_loopw [4] (fun i wr => ∃ k : Nat, k ≤ n ∧ i = .int .i64 k ∧ wr.heap.size = w.heap.size + 1 ∧ wr.rowIs w.heap.size 3 n (half .i64 f k) ∧ Below w.heap.size w wr) (fun i _ => n - (intOf i).toNat)
    case atStart => exact ⟨0, Nat.zero_le _, rfl, by simp, hr0, (Below.refl _ _).alloc (Nat.le_refl _) _⟩
    case round =>
      obtain ⟨k, hk, rfl, hsz, hrow, hbel⟩ := hrel
      clear hr0
      by_cases hlt : k < n
      · obtain ⟨b, o, hx, hb, g⟩ := h0 (by omega)
        obtain rfl : x = ⟨b, o, none⟩ := by simpa using hx
        have e1 : wr.cell? ⟨b, o + k, none⟩ = some (.int .i64 (f k)) := by rw [hbel.cell (p := ⟨b, o + k, none⟩) (by show b < _; omega)]; exact g k hlt
        have e2 := hrow.cell hlt
        have e3 := hrow.frozen k
        have hz : (k : Int) < (n : Int) := by omega
        have hrow' := half_step hrow
        have hbel' := hbel.setCell (p := ⟨w.heap.size, k, none⟩) (Nat.le_refl _) (.int .i64 (f k))
        have X : Hid ((wr.setCell ⟨w.heap.size, k, none⟩ (.int .i64 (f k))).rowIs w.heap.size 3 n (half .i64 f (k + 1))) := hrow'
        clear g hx h0 hrow hrow'
        go_wp2
        go_roundw
        case rel => exact ⟨k + 1, by omega, by go_num, by simp [hsz], X.out, hbel'⟩
        case measure => simp [intOf]; omega
      · obtain rfl : k = n := by omega
        go_wp2
        go_ret
        refine ⟨_, rfl, hbel, by simp, fun hn => ⟨_, _, rfl, by omega, fun i hi => ?_⟩⟩
        rw [Nat.zero_add, hrow.cell hi]
        simp [half, hi]

/-- The guard on the lengths. -/
theorem guard16 (w : World) (a : Option Addr) (n c : Nat) (m x : Int) (hn : n ≤ 1048576) :
    Calls Try.prog 16 #[.slice a n c, .int .i64 m, .int .u8 x] w fun e w' => e = .returned (.bool true) ∧ w' = w := by
  go_enter Try.func16, Try.ntmps16
  go_wp2
  go_ret
  exact ⟨rfl, rfl⟩
theorem guard16_no (w : World) (a : Option Addr) (n c : Nat) (m x : Int) (hn : 1048576 < n) :
    Calls Try.prog 16 #[.slice a n c, .int .i64 m, .int .u8 x] w fun e w' => e = .returned (.bool false) ∧ w' = w := by
  go_enter Try.func16, Try.ntmps16
  go_wp2
  go_ret
  exact ⟨rfl, rfl⟩
theorem guard8 (w : World) (a a2 : Option Addr) (n c n2 c2 : Nat) (s : Bool) (hn : n + n2 ≤ 1048576) :
    Calls Try.prog 8 #[.slice a n c, .bool s, .slice a2 n2 c2] w fun e w' => e = .returned (.bool true) ∧ w' = w := by
  go_enter Try.func8, Try.ntmps8
  go_wp2
  go_ret
  exact ⟨rfl, rfl⟩
theorem guard8_no (w : World) (a a2 : Option Addr) (n c n2 c2 : Nat) (s : Bool) (hn : 1048576 < n + n2) (h1 : n ≤ 9223372036854775807) (h2 : n2 ≤ 9223372036854775807) :
    Calls Try.prog 8 #[.slice a n c, .bool s, .slice a2 n2 c2] w fun e w' => e = .returned (.bool false) ∧ w' = w := by
  by_cases g1 : 1048576 < n
  · go_enter Try.func8, Try.ntmps8
    go_wp2
    go_ret
    exact ⟨rfl, rfl⟩
  by_cases g2 : 1048576 < n2
  · go_enter Try.func8, Try.ntmps8
    go_wp2
    go_ret
    exact ⟨rfl, rfl⟩
  · go_enter Try.func8, Try.ntmps8
    go_wp2
    go_ret
    exact ⟨rfl, rfl⟩
end Go.Proofs.Qxb6003565a
