import Derived.Test.Qxb6003565aParts
import Derived.WalkSmall
import Derived.Deep.RegionWith
namespace Go.Proofs.Qxb6003565a
open Go.RowKit

theorem piece_far (w : World) (a0 : Option Addr) (n0 c0 : Nat) (n x : Int) (h : 524288 < n0 ∨ n < 0) :
    Calls Try.prog 4 #[.slice a0 n0 c0, .int .i64 n, .int .u8 x] w fun e w' => e = .returned (.bool true) ∧ Below w.heap.size w w' := by
  by_cases h1 : 1048576 < n0
  · go_enter Try.func4, Try.ntmps4
    go_wp2_with (go_at_call 16; refine (guard16_no _ _ _ _ _ _ h1).mono ?_; rintro e w' ⟨rfl, rfl⟩)
    go_ret
    exact ⟨rfl, Below.refl _ _⟩
  by_cases h2 : 524288 < n0
  · go_enter Try.func4, Try.ntmps4
    go_wp2_with (go_at_call 16; refine (guard16 _ _ _ _ _ _ (by omega)).mono ?_; rintro e w' ⟨rfl, rfl⟩)
    go_ret
    exact ⟨rfl, Below.refl _ _⟩
  · have h3 : n < 0 := by omega
    go_enter Try.func4, Try.ntmps4
    go_wp2_with (go_at_call 16; refine (guard16 _ _ _ _ _ _ (by omega)).mono ?_; rintro e w' ⟨rfl, rfl⟩)
    go_ret
    exact ⟨rfl, Below.refl _ _⟩

theorem Lies.nil {w : World} {B : Nat} {k : IntKind} {a : Option Addr} {n : Nat} {f : Nat → Int} (h : Lies w B k a n f) (ha : a = none) : n = 0 := by
  rcases Nat.eq_zero_or_pos n with e | e
  · exact e
  · obtain ⟨b, o, h1, _⟩ := h e
    rw [ha] at h1
    cases h1

/-- The cursor's block. -/
theorem cur0 (w : World) (x y : Value) : (w.alloc (.cells #[x, y] 40)).cell? ⟨w.heap.size, 0, none⟩ = some x := by simp
theorem cur1 (w : World) (x y : Value) : (w.alloc (.cells #[x, y] 40)).cell? ⟨w.heap.size, 1, none⟩ = some y := by simp
theorem curf (w : World) (x y : Value) (j : Nat) : (w.alloc (.cells #[x, y] 40)).frozen? ⟨w.heap.size, j, none⟩ = false := by simp

set_option maxHeartbeats 400000 in
theorem piece_past (w : World) (a0 : Option Addr) (n0 c0 : Nat) (n x : Int) (f : Nat → Int) (h0 : n0 ≤ 524288) (hn : (n0 : Int) < n) (hl : Lies w w.heap.size .u8 a0 n0 f) :
    Calls Try.prog 4 #[.slice a0 n0 c0, .int .i64 n, .int .u8 x] w fun e w' => e = .returned (.bool true) ∧ Below w.heap.size w w' := by
  have hq := fun (w : World) (a : Option Addr) (n c : Nat) => Lib.run_eql_slice_nil (P := Try.prog) w 22 5 a n c 0 0 Try.underlying22
  go_enter Try.func4, Try.ntmps4
  go_wp2_with fail
  refine (guard16 _ _ _ _ _ _ (by omega)).mono ?_
  rintro e w' ⟨rfl, rfl⟩
  go_wp2_with fail
  refine (clone_any _ _ _ _ _ f (by omega) (Nat.le_refl _) hl hl.nil).mono ?_
  rintro e w1 ⟨a1, rfl, hb1, hn1, hl1⟩
  go_wp2_with fail
  refine (clone_any _ _ _ _ _ f (by omega) (Nat.le_refl _) hl1 hl1.nil).mono ?_
  rintro e w2 ⟨a2, rfl, hb2, hn2, hl2⟩
  go_wp2_with fail
  refine (new_any _ _ _ _ _).mono ?_
  rintro e w3 ⟨rfl, rfl⟩
  go_wp2_with fail
  refine (bytes_past _ _ a1 n0 _ hn (cur0 _ _ _) (cur1 _ _ _) (curf _ _ _ _)).mono ?_
  rintro e w4 ⟨rfl, hw4⟩
  have hb4 : Below w2.heap.size w2 w4 := by
    rw [hw4]
    exact ((Below.refl _ _).alloc (Nat.le_refl _) _).setCell (Nat.le_refl _) _
  have c0 : w4.cell? ⟨w2.heap.size, 0, none⟩ = some (.slice a1 n0 n0) := by rw [hw4]; simp [go_sem]
  have c1 : w4.cell? ⟨w2.heap.size, 1, none⟩ = some (.bool true) := by rw [hw4]; simp [go_sem]
  have l1 : Lies w4 w2.heap.size .u8 a1 n0 f := ((hl1.below hb2).mono hb2.size).below hb4
  have l2 := hl2.below hb4
  have hbel := (hb1.trans (hb2.mono hb1.size)).trans (hb4.mono (Nat.le_trans hb1.size hb2.size))
  clear hw4 hl1 hl2 hb1 hb2 hb4 hl hn1 hn2
  go_wp2_with fail
  refine (short_any _ _ _ c1).mono ?_
  rintro e w5 ⟨rfl, rfl⟩
  go_wp2_with fail
  refine (rest_any _ _ _ _ _ c0).mono ?_
  rintro e w5 ⟨rfl, rfl⟩
  go_wp2_with fail
  refine (same_any _ _ _ _ _ _ _ _ f (by omega) l1 l2).mono ?_
  rintro e w5 ⟨rfl, q, rfl⟩
  go_wp2
  go_ret
  exact ⟨rfl, below_drewN hbel _⟩
/-- What was appended to, as cells. -/
def olds (n : Nat) (f : Nat → Int) : List Value := (List.range n).map fun i => .int .u8 (f i)
theorem olds_length (n : Nat) (f : Nat → Int) : (olds n f).length = n * 1 := by simp [olds]
theorem olds_at {w : World} {B n : Nat} {a v : Option Addr} {f : Nat → Int} {m : Nat} (h : Lies w B .u8 a m f) (hv : 0 < n → v = a) (hn : n ≤ m) :
    ∀ b, v = some b → ∀ j u, (olds n f)[j]? = some u → w.cell? (b.add j) = some u := by
  intro b hb j u hj
  have hlt : j < n := by
    have := (List.getElem?_eq_some_iff.1 hj).1
    simpa [olds] using this
  obtain ⟨b', o, ha, _, hc⟩ := h (by omega)
  have e := hv (by omega)
  rw [hb, ha] at e
  obtain rfl := Option.some.inj e
  simp [olds, hlt] at hj
  subst hj
  rw [Addr.add_lit]
  exact hc j (by omega)

theorem one_new (w : World) (x : Value) (t : TypeId) : ∀ j u, [x][j]? = some u → (w.alloc (.cells #[x] t)).cell? ((⟨w.heap.size, 0, none⟩ : Addr).add j) = some u := by
  intro j u hj
  match j, hj with
  | 0, hj => simp at hj; subst hj; simp [Addr.add]
  | j + 1, hj => simp at hj

/-- WHAT THE APPEND LEAVES. -/
theorem grown_facts {w' : World} {B n : Nat} {f : Nat → Int} {x : Int} {v' : Value} (ho : w'.ownsRow B 5 1 v' (n + 1) (olds n f ++ [.int .u8 x])) :
    ∃ g cap, v' = .slice (some ⟨g, 0, none⟩) (n + 1) cap ∧ n + 1 ≤ cap ∧ w'.cell? ⟨g, n, none⟩ = some (.int .u8 x) ∧ Lies w' (g + 1) .u8 (some ⟨g, 0, none⟩) n f := by
  have ho2 := ho
  obtain ⟨h1, h2⟩ := ho
  rcases h2 with ⟨_, h0⟩ | ⟨g, cap, cur, hv, _, _, hn, _⟩
  · exact absurd h0 (by simp)
  · subst hv
    have hc := ho2.cells (g := g) rfl
    refine ⟨g, cap, rfl, hn, ?_, fun hpos => ⟨g, 0, rfl, by omega, fun i hi => ?_⟩⟩
    · have := hc n (.int .u8 x) (by simp [olds])
      simpa [Addr.add_lit] using this
    · have := hc i (.int .u8 (f i)) (by rw [List.getElem?_append_left (by simp [olds]; omega)]; simp [olds, hi])
      simpa [Addr.add_lit] using this

theorem Lies.drop {w : World} {B n m : Nat} {k : IntKind} {a r : Option Addr} {f : Nat → Int} (h : Lies w B k a m f) (hr : n < m → r = a.map (·.add n)) : Lies w B k r (m - n) (fun i => f (n + i)) := by
  intro hpos
  obtain ⟨b, o, rfl, hb, hc⟩ := h (by omega)
  refine ⟨b, o + n, by rw [hr (by omega)]; simp [Addr.add_lit], hb, fun i hi => ?_⟩
  rw [Nat.add_assoc]
  exact hc (n + i) (by omega)
theorem Lies.take {w : World} {B n m : Nat} {k : IntKind} {a r : Option Addr} {f : Nat → Int} (h : Lies w B k a m f) (hn : n ≤ m) (hr : 0 < n → r = a) : Lies w B k r n f := by
  intro hpos
  obtain ⟨b, o, rfl, hb, hc⟩ := h (by omega)
  exact ⟨b, o, hr hpos, hb, fun i hi => hc i (by omega)⟩

set_option maxHeartbeats 800000 in
theorem piece_ok (w : World) (a0 : Option Addr) (n0 cap0 n : Nat) (x : Int) (f : Nat → Int) (h0 : n0 ≤ 524288) (hn : n ≤ n0) (hl : Lies w w.heap.size .u8 a0 n0 f) :
    Calls Try.prog 4 #[.slice a0 n0 cap0, .int .i64 n, .int .u8 x] w fun e w' => e = .returned (.bool true) ∧ Below w.heap.size w w' := by
  obtain ⟨i0, hi, hz0, hz1, hz2⟩ := info_parts Try.info5
  go_enter Try.func4, Try.ntmps4
  go_wp2_with fail
  refine (guard16 _ _ _ _ _ _ (by omega)).mono ?_
  rintro e w' ⟨rfl, rfl⟩
  go_wp2_with fail
  refine (clone_any _ _ _ _ _ f (by omega) (Nat.le_refl _) hl hl.nil).mono ?_
  rintro e w1 ⟨a1, rfl, hb1, hn1, hl1⟩
  go_wp2_with fail
  refine (clone_any _ _ _ _ _ f (by omega) (Nat.le_refl _) hl1 hl1.nil).mono ?_
  rintro e w2 ⟨a2, rfl, hb2, hn2, hl2⟩
  go_wp2_with fail
  refine (new_any _ _ _ _ _).mono ?_
  rintro e w3 ⟨rfl, rfl⟩
  go_wp2_with fail
  refine (bytes_ok _ _ a1 n0 n (by omega) (by omega) (cur0 _ _ _) (cur1 _ _ _) (curf _ _ _ _)).mono ?_
  rintro e w4 ⟨v1, r1, rfl, hw4, hv1, hr1⟩
  have hb4 : Below w2.heap.size w2 w4 := by
    rw [hw4]
    exact ((Below.refl _ _).alloc (Nat.le_refl _) _).setCell (Nat.le_refl _) _
  have hs4 : w2.heap.size < w4.heap.size := by rw [hw4]; simp [go_sem]
  have c0 : w4.cell? ⟨w2.heap.size, 0, none⟩ = some (.slice r1 (n0 - n) (n0 - n)) := by rw [hw4]; simp [go_sem]
  have c1 : w4.cell? ⟨w2.heap.size, 1, none⟩ = some (.bool false) := by rw [hw4]; simp [go_sem]
  have l1 : Lies w4 w2.heap.size .u8 a1 n0 f := ((hl1.below hb2).mono hb2.size).below hb4
  have l2 := hl2.below hb4
  have hbel := (hb1.trans (hb2.mono hb1.size)).trans (hb4.mono (Nat.le_trans hb1.size hb2.size))
  have hle : w'.heap.size ≤ w2.heap.size := Nat.le_trans hb1.size hb2.size
  clear hw4 hl1 hl2 hb1 hb2 hb4 hl hn1 hn2
  have la : ∀ o, Lies (w4.alloc o) w2.heap.size .u8 a1 n0 f := fun o => l1.below ((Below.refl _ _).alloc (by omega) _)
  have HA : Hid (∀ o b, v1 = some b → ∀ j u, (olds n f)[j]? = some u → (w4.alloc o).cell? (b.add j) = some u) := fun o => olds_at (la o) hv1 (by omega)
  clear la
  have HV : Hid (0 < n → v1 = a1) := hv1
  have HR : Hid (n < n0 → r1 = a1.map (·.add n)) := hr1
  clear hv1 hr1
  go_wp2_with (at_builtin; refine wpList_append_grows _ rfl (.tmp 45) (.tmp 47) 22 rfl 5 i0 (.int .u8 0) 1 1 Try.underlying22 hi hz0 hz1 hz2 rfl (by decide) v1 n n (olds n f) rfl ?hnone (olds_length n f) (HA.out _) ⟨w4.heap.size, 0, none⟩ 1 1 [.int .u8 x] rfl rfl (one_new _ _ _) ?c2 (by omega) (by unfold maxLen; omega) (by omega) ?grow)
  case hnone =>
    intro e
    rcases Nat.eq_zero_or_pos n with h | h
    · exact ⟨h, h⟩
    · obtain ⟨b, o, h2, _⟩ := l1 (by omega)
      rw [HV.out h, h2] at e
      cases e
  case c2 => intro u hu; simp at hu; subst hu; rfl
  case grow =>
    intro v' w5 ho hg
    obtain ⟨g, cap, hv', hcap, cx, lv⟩ := grown_facts ho
    have hb5 : Below w4.heap.size w4 w5 := ((Below.refl _ _).alloc (Nat.le_refl _) _).grown hg (by simp) (fun k h => by cases h)
    have d0 : w5.cell? ⟨w2.heap.size, 0, none⟩ = some (.slice r1 (n0 - n) (n0 - n)) := by rw [hb5.cell (p := ⟨w2.heap.size, 0, none⟩) hs4]; exact c0
    have d1 : w5.cell? ⟨w2.heap.size, 1, none⟩ = some (.bool false) := by rw [hb5.cell (p := ⟨w2.heap.size, 1, none⟩) hs4]; exact c1
    have m1 := l1.below (hb5.mono (Nat.le_of_lt hs4))
    have m2 := l2.below (hb5.mono (Nat.le_of_lt hs4))
    have hbel5 := hbel.trans (hb5.mono (by omega))
    have mr := m1.drop HR.out
    rw [hv']
    clear hv' hb5 c0 c1 l1 l2 hbel ho hg HA HV HR
    have hx1 : (n : Int) < ((n + 1 : Nat) : Int) := by omega
    by_cases e1 : n0 = n
    · subst e1
      have mw : Lies w5 w2.heap.size .u8 a2 (n0 - n0) (fun i => f (n0 + i)) := m2.drop (fun h => absurd h (by omega))
      simp only [Nat.sub_self] at mw mr d0
      have mt : Lies w5 w2.heap.size .u8 a2 n0 f := m2.take hn (fun _ => rfl)
      have k2 : ¬ cap = 0 := by omega
      have k3 : (n0 : Int) ≤ (n0 : Int) := by omega
      have k4 : (n0 : Int) ≤ (cap : Int) := by omega
      go_wp2
      go_quiet (first
        | (go_at_call 14; exact Calls.quiet_of_same (short_any _ _ _ d1))
        | (go_at_call 15; exact Calls.quiet_of_same (rest_any _ _ _ _ _ d0))
        | (go_at_call_of 13 r1; exact Calls.quiet_of (same_any _ _ _ _ _ _ _ _ _ (by omega) (mr.drewN _) (mw.drewN _)))
        | (go_at_call_of 13 a1; exact Calls.quiet_of (same_any _ _ _ _ _ _ _ _ _ (by omega) (m1.drewN _) (m2.drewN _)))
        | (go_at_call 13; exact Calls.quiet_of (same_any _ _ _ _ _ _ _ _ _ (by omega) (lv.drewN _) (mt.drewN _))))
      go_wp2
      go_ret
      exact ⟨rfl, below_drewN hbel5 _⟩
    · have mw : Lies w5 w2.heap.size .u8 (a2.map (·.add n)) (n0 - n) (fun i => f (n + i)) := m2.drop (fun _ => rfl)
      have mt : Lies w5 w2.heap.size .u8 a2 n f := m2.take hn (fun _ => rfl)
      have k1 : ¬ n0 = 0 := by omega
      have k2 : ¬ cap = 0 := by omega
      have k3 : (n : Int) ≤ (n0 : Int) := by omega
      have k4 : (n : Int) ≤ (cap : Int) := by omega
      go_wp2
      go_quiet (first
        | (go_at_call 14; exact Calls.quiet_of_same (short_any _ _ _ d1))
        | (go_at_call 15; exact Calls.quiet_of_same (rest_any _ _ _ _ _ d0))
        | (go_at_call_of 13 r1; exact Calls.quiet_of (same_any _ _ _ _ _ _ _ _ _ (by omega) (mr.drewN _) (mw.drewN _)))
        | (go_at_call_of 13 a1; exact Calls.quiet_of (same_any _ _ _ _ _ _ _ _ _ (by omega) (m1.drewN _) (m2.drewN _)))
        | (go_at_call 13; exact Calls.quiet_of (same_any _ _ _ _ _ _ _ _ _ (by omega) (lv.drewN _) (mt.drewN _))))
      go_wp2
      go_ret
      exact ⟨rfl, below_drewN hbel5 _⟩
end Go.Proofs.Qxb6003565a
