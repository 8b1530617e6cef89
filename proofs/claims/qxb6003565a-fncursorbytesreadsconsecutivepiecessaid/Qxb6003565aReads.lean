import Derived.Test.Qxb6003565aPiece
namespace Go.Proofs.Qxb6003565a
open Go.RowKit

theorem reads_far (w : World) (a0 a2 : Option Addr) (n0 c0 n2 c2 : Nat) (s : Bool) (h : 524288 < n0 ∨ 65536 < n2) (m0 : n0 ≤ 9223372036854775807) (m2 : n2 ≤ 9223372036854775807) :
    Calls Try.prog 3 #[.slice a0 n0 c0, .bool s, .slice a2 n2 c2] w fun e w' => e = .returned (.bool true) ∧ Below w.heap.size w w' := by
  by_cases h1 : 1048576 < n0 + n2
  · go_enter Try.func3, Try.ntmps3
    go_wp2_with (go_at_call 8; refine (guard8_no _ _ _ _ _ _ _ _ h1 m0 m2).mono ?_; rintro e w' ⟨rfl, rfl⟩)
    go_ret
    exact ⟨rfl, Below.refl _ _⟩
  by_cases h2 : 524288 < n0
  · go_enter Try.func3, Try.ntmps3
    go_wp2_with (go_at_call 8; refine (guard8 _ _ _ _ _ _ _ _ (by omega)).mono ?_; rintro e w' ⟨rfl, rfl⟩)
    go_ret
    exact ⟨rfl, Below.refl _ _⟩
  · have h3 : 65536 < n2 := by omega
    go_enter Try.func3, Try.ntmps3
    go_wp2_with (go_at_call 8; refine (guard8 _ _ _ _ _ _ _ _ (by omega)).mono ?_; rintro e w' ⟨rfl, rfl⟩)
    go_ret
    exact ⟨rfl, Below.refl _ _⟩

/-- WHAT HOLDS AT THE SECOND LOOP's HEAD: p bytes are handed out; 'a': the clone's address; C: the cursor's block. -/
structure Inv (w2 wr : World) (C : Nat) (a : Option Addr) (n0 p : Nat) (g : Bool) (r : Option Addr) : Prop where
  bel : Below C w2 wr
  le : p ≤ n0
  c0 : wr.cell? ⟨C, 0, none⟩ = some (.slice r (n0 - p) (n0 - p))
  c1 : wr.cell? ⟨C, 1, none⟩ = some (.bool g)
  f0 : wr.frozen? ⟨C, 0, none⟩ = false
  f1 : wr.frozen? ⟨C, 1, none⟩ = false
  at' : p < n0 → r = a.map (·.add p)

theorem inv_start (w2 : World) (a : Option Addr) (n0 : Nat) (s : Bool) : Inv w2 (w2.alloc (.cells #[.slice a n0 n0, .bool s] 40)) w2.heap.size a n0 0 s a :=
  ⟨(Below.refl _ _).alloc (Nat.le_refl _) _, Nat.zero_le _, cur0 _ _ _, cur1 _ _ _, curf _ _ _ _, curf _ _ _ _, fun _ => by cases a <;> simp [Addr.add]⟩

theorem inv_gone {w2 wr : World} {C : Nat} {a : Option Addr} {n0 p : Nat} {g : Bool} {r : Option Addr} (h : Inv w2 wr C a n0 p g r) : Inv w2 (wr.setCell ⟨C, 1, none⟩ (.bool true)) C a n0 p true r :=
  ⟨h.bel.setCell (Nat.le_refl _) _, h.le, by have := h.c0; simp [go_sem, this], by have := h.c1; simp [go_sem, this], by have := h.f0; simp [go_sem, this], by have := h.f1; simp [go_sem, this], h.at'⟩

theorem inv_step {w2 wr : World} {C : Nat} {a : Option Addr} {n0 p m : Nat} {r r1 : Option Addr} (h : Inv w2 wr C a n0 p false r) (hm : m ≤ n0 - p) (hr : m < n0 - p → r1 = r.map (·.add m)) :
    Inv w2 (wr.setCell ⟨C, 0, none⟩ (.slice r1 (n0 - p - m) (n0 - p - m))) C a n0 (p + m) false r1 := by
  have hle := h.le
  refine ⟨h.bel.setCell (Nat.le_refl _) _, by omega, ?_, by have := h.c1; simp [go_sem, this], by have := h.f0; simp [go_sem, this], by have := h.f1; simp [go_sem, this], fun hlt => ?_⟩
  · have := h.c0
    simp [go_sem, this, Nat.sub_sub]
  · rw [hr (by omega), h.at' (by omega)]
    cases a <;> simp [Addr.add_add]

theorem inv_drew {w2 wr : World} {C : Nat} {a : Option Addr} {n0 p : Nat} {g : Bool} {r : Option Addr} (h : Inv w2 wr C a n0 p g r) (q : Nat) : Inv w2 (wr.drewN q) C a n0 p g r :=
  ⟨below_drewN h.bel q, h.le, h.c0, h.c1, h.f0, h.f1, h.at'⟩

set_option maxRecDepth 100000 in
set_option maxHeartbeats 1600000 in
theorem reads_near (w : World) (a0 a2 : Option Addr) (n0 cap0 n2 cap2 : Nat) (s : Bool) (f z : Nat → Int) (h0 : n0 ≤ 524288) (h2 : n2 ≤ 65536) (hl : Lies w w.heap.size .u8 a0 n0 f) (hz : Lies w w.heap.size .i64 a2 n2 z) :
    Calls Try.prog 3 #[.slice a0 n0 cap0, .bool s, .slice a2 n2 cap2] w fun e w' => e = .returned (.bool true) ∧ Below w.heap.size w w' := by
  have hq := fun (w : World) (a : Option Addr) (n c : Nat) => run_neq_slice_nil_any (P := Try.prog) w 22 5 a n c 0 0 Try.underlying22
  go_enter Try.func3, Try.ntmps3
  go_wp2_with fail
  refine (guard8 _ _ _ _ _ _ _ _ (by omega)).mono ?_
  rintro e w' ⟨rfl, rfl⟩
  go_wp2_with fail
  go_loop [7] (fun i => ∃ k : Nat, k ≤ n2 ∧ i = .int .i64 k ∧ ∀ j, j < k → 0 ≤ z j) (fun i => n2 - (intOf i).toNat)
  case atStart => exact ⟨0, Nat.zero_le _, rfl, fun j hj => absurd hj (by omega)⟩
  case round =>
    obtain ⟨k, hk, rfl, hnn⟩ := hrel
    by_cases hlt : k < n2
    · obtain ⟨b, o, rfl, hb, hc⟩ := hz (by omega)
      have e1 := hc k hlt
      have hkz : (k : Int) < (n2 : Int) := by omega
      have HN : Hid (∀ j, j < k → 0 ≤ z j) := hnn
      clear hnn hc hq hl hz
      by_cases hneg : z k < 0
      · go_wp2
        go_ret
        exact ⟨rfl, Below.refl _ _⟩
      · go_wp2
        go_round
        case rel => exact ⟨k + 1, by omega, by go_num, fun j hj => by
          by_cases e : j = k
          · subst e; omega
          · exact HN.out j (by omega)⟩
        case measure => simp [intOf]; omega
    · obtain rfl : n2 = k := by omega
      have HN : Hid (∀ j, j < n2 → 0 ≤ z j) := hnn
      clear hnn
      go_wp2_with fail
      refine (clone_any _ _ _ _ _ f (by omega) (Nat.le_refl _) hl hl.nil).mono ?_
      rintro e w1 ⟨ab, rfl, hb1, _, hl1⟩
      have hz1 := hz.below hb1
      go_wp2_with fail
      refine (cloneInts_any _ _ _ _ _ z (by omega) hb1.size hz1 hz1.nil).mono ?_
      rintro e w2 ⟨an, rfl, hb2, _, hz2⟩
      have hl2 := (hl1.below hb2).mono hb2.size
      have hbw := hb1.trans (hb2.mono hb1.size)
      clear hl hz hz1 hl1 hb1 hb2
      go_wp2_with fail
      refine (new_any _ _ _ _ _).mono ?_
      rintro e w3 ⟨rfl, rfl⟩
      go_wp2
      have hst := inv_start w2 ab n0 s
      go_loopw [9, 10, 11] (fun ps gn i wr => ∃ (k p : Nat) (g : Bool) (r : Option Addr), k ≤ n2 ∧ ps = .int .i64 p ∧ gn = .bool g ∧ i = .int .i64 k ∧ Inv w2 wr w2.heap.size ab n0 p g r) (fun _ _ i _ => n2 - (intOf i).toNat)
      case atStart => exact ⟨0, 0, s, ab, Nat.zero_le _, rfl, rfl, rfl, hst⟩
      case round =>
        clear hst
        obtain ⟨k, p, g, r, hk, rfl, rfl, rfl, hinv⟩ := hrel
        have hple := hinv.le
        have lb := hl2.below hinv.bel
        have lz := hz2.below hinv.bel
        by_cases hlt : k < n2
        · obtain ⟨b, o, rfl, hb, hc⟩ := lz (by omega)
          obtain ⟨m, hm⟩ := Int.eq_ofNat_of_zero_le (HN.out k hlt)
          have e1 := hc k hlt
          rw [hm] at e1
          have hkz : (k : Int) < (n2 : Int) := by omega
          clear hc hm HN lz hz2 hl2
          cases g with
          | true =>
            go_wp2_with fail
            refine (bytes_short _ _ _ hinv.c1 hinv.f1).mono ?_
            rintro e w4 ⟨rfl, hw4⟩
            have hi4 : Inv w2 w4 w2.heap.size ab n0 p true r := by rw [hw4]; exact inv_gone hinv
            have d0 := hi4.c0
            have d1 := hi4.c1
            clear hw4 hinv lb
            go_wp2_with (first
              | (go_at_call 14; refine (short_any _ _ _ d1).mono ?_; rintro e w5 ⟨rfl, rfl⟩)
              | (go_at_call 15; refine (rest_any _ _ _ _ _ d0).mono ?_; rintro e w5 ⟨rfl, rfl⟩))
            go_roundw
            case rel => exact ⟨k + 1, p, true, r, by omega, rfl, rfl, by go_num, hi4⟩
            case measure => simp [intOf]; omega
          | false =>
            by_cases hmn : m ≤ n0 - p
            · go_wp2_with fail
              refine (bytes_ok _ _ r (n0 - p) m (by omega) hmn hinv.c0 hinv.c1 hinv.f0).mono ?_
              rintro e w4 ⟨v1, r1, rfl, hw4, hv1, hr1⟩
              have hi4 : Inv w2 w4 w2.heap.size ab n0 (p + m) false r1 := by rw [hw4]; exact inv_step hinv hmn hr1
              have d0 := hi4.c0
              have d1 := hi4.c1
              have lb4 : Lies w4 w2.heap.size .u8 ab n0 f := lb.below (by rw [hw4]; exact Below.setCell (p := ⟨w2.heap.size, 0, none⟩) (Below.refl _ _) (Nat.le_refl _) _)
              have lv : Lies w4 w2.heap.size .u8 v1 m (fun i => f (p + i)) := (lb4.drop hinv.at').take hmn hv1
              clear hw4 hinv lb hv1 hr1
              have q1 : (p : Int) ≤ (p : Int) + (m : Int) := by omega
              have q2 : (p : Int) + (m : Int) ≤ (n0 : Int) := by omega
              by_cases hpn : n0 = p
              · subst hpn
                obtain rfl : m = 0 := by omega
                have ls : Lies w4 w2.heap.size .u8 ab 0 (fun i => f (n0 + i)) := fun h => absurd h (by omega)
                go_wp2_with (first
                  | (go_at_call 13; refine (same_any _ _ _ _ _ _ _ _ _ (by omega) lv ls).mono ?_; rintro e w5 ⟨rfl, q, rfl⟩)
                  | (go_at_call 14; refine (short_any _ _ _ (by exact d1)).mono ?_; rintro e w5 ⟨rfl, rfl⟩)
                  | (go_at_call 15; refine (rest_any _ _ _ _ _ (by exact d0)).mono ?_; rintro e w5 ⟨rfl, rfl⟩))
                go_roundw
                case rel => exact ⟨k + 1, n0 + 0, false, r1, by omega, by go_num, rfl, by go_num, inv_drew hi4 _⟩
                case measure => simp [intOf]; omega
              · have ls : Lies w4 w2.heap.size .u8 (ab.map (·.add p)) m (fun i => f (p + i)) := (lb4.drop (fun _ => rfl)).take hmn (fun _ => rfl)
                go_wp2_with (first
                  | (go_at_call 13; refine (same_any _ _ _ _ _ _ _ _ _ (by omega) lv ls).mono ?_; rintro e w5 ⟨rfl, q, rfl⟩)
                  | (go_at_call 14; refine (short_any _ _ _ (by exact d1)).mono ?_; rintro e w5 ⟨rfl, rfl⟩)
                  | (go_at_call 15; refine (rest_any _ _ _ _ _ (by exact d0)).mono ?_; rintro e w5 ⟨rfl, rfl⟩))
                go_roundw
                case rel => exact ⟨k + 1, p + m, false, r1, by omega, by go_num, rfl, by go_num, inv_drew hi4 _⟩
                case measure => simp [intOf]; omega
            · have hpast : ((n0 - p : Nat) : Int) < (m : Int) := by omega
              go_wp2_with fail
              refine (bytes_past _ _ r (n0 - p) _ hpast hinv.c0 hinv.c1 hinv.f1).mono ?_
              rintro e w4 ⟨rfl, hw4⟩
              have hi4 : Inv w2 w4 w2.heap.size ab n0 p true r := by rw [hw4]; exact inv_gone hinv
              have d0 := hi4.c0
              have d1 := hi4.c1
              clear hw4 hinv lb
              go_wp2_with (first
                | (go_at_call 14; refine (short_any _ _ _ d1).mono ?_; rintro e w5 ⟨rfl, rfl⟩)
                | (go_at_call 15; refine (rest_any _ _ _ _ _ d0).mono ?_; rintro e w5 ⟨rfl, rfl⟩))
              go_roundw
              case rel => exact ⟨k + 1, p, true, r, by omega, rfl, rfl, by go_num, hi4⟩
              case measure => simp [intOf]; omega
        · have d0 := hinv.c0
          have hbel := hbw.trans (hinv.bel.mono hbw.size)
          have lr := lb.drop hinv.at'
          have q1 : (p : Int) ≤ (n0 : Int) := by omega
          clear hinv lz hz2 hl2 hbw HN
          by_cases hpn : n0 = p
          · subst hpn
            have ls : Lies wr w2.heap.size .u8 ab (n0 - n0) (fun i => f (n0 + i)) := lb.drop (fun h => absurd h (by omega))
            simp only [Nat.sub_self] at ls lr d0
            go_wp2
            go_quiet (first
              | (go_at_call 15; exact Calls.quiet_of_same (rest_any _ _ _ _ _ d0))
              | (go_at_call 13; exact Calls.quiet_of (same_any _ _ _ _ _ _ _ _ _ (by omega) (lr.drewN _) (ls.drewN _))))
            go_wp2
            go_ret
            exact ⟨rfl, below_drewN hbel _⟩
          · have ls : Lies wr w2.heap.size .u8 (ab.map (·.add p)) (n0 - p) (fun i => f (p + i)) := lb.drop (fun _ => rfl)
            go_wp2
            go_quiet (first
              | (go_at_call 15; exact Calls.quiet_of_same (rest_any _ _ _ _ _ d0))
              | (go_at_call 13; exact Calls.quiet_of (same_any _ _ _ _ _ _ _ _ _ (by omega) (lr.drewN _) (ls.drewN _))))
            go_wp2
            go_ret
            exact ⟨rfl, below_drewN hbel _⟩
end Go.Proofs.Qxb6003565a
