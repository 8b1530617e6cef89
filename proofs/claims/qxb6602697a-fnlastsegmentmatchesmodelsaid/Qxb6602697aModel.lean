import Derived.Test.Qxb6602697aSeg
namespace Go.Proofs.Qxb6602697a
open Go.RowKit

theorem Try.info3 : (Try.prog.info? 3).map (fun i => (i.zero, i.size, i.bytes)) = some (some (.int .i64 0), 1, 8) := by kernel_rfl

/-- The model's row of depths, when k of them are laid. -/
def dep (s : ByteArray) (k : Nat) : Nat → Value := fun j => if j < k then .int .i64 (D s j) else .int .i64 0

theorem dep_step {w : World} {b t n k : Nat} {s : ByteArray} (h : w.rowIs b t n (dep s k)) : (w.setCell ⟨b, k, none⟩ (.int .i64 (D s k))).rowIs b t n (dep s (k + 1)) :=
  (h.set k _).congr fun j _ => by
    simp only [dep]
    by_cases e : j = k
    · subst e; simp
    · rw [if_neg e]
      by_cases hl : j < k
      · rw [if_pos hl, if_pos (by omega)]
      · rw [if_neg hl, if_neg (by omega)]

set_option maxRecDepth 100000 in
set_option maxHeartbeats 3200000 in
theorem model_any (s : ByteArray) (w : World) (hs : s.size ≤ 4194304) :
    Calls Try.prog 10 #[.string s] w fun e w' => e = .returned (.tuple #[.int .i64 (St s s.size), .int .i64 (LC s (St s s.size) s.size)]) ∧ Below w.heap.size w w' := by
  have hmk := run_make_row' (P := Try.prog) 32 3 (.int .i64 0) 8 Try.underlying32 Try.info3 rfl .i64 .i64 s.size (by omega) (by omega)
  go_enter Try.func10, Try.ntmps10
  go_wp2
  have hr0 : (w.alloc (.cells (madeCells #[.int .i64 0] s.size) 3)).rowIs w.heap.size 3 s.size (dep s 0) := (World.rowIs_made w (.int .i64 0) s.size 3).congr fun j _ => by simp [dep]
  clear hmk
  go_loopw [6, 7] (fun vd vi wr => ∃ (k : Nat) (d : Int), k ≤ s.size ∧ vd = .int .i64 d ∧ vi = .int .i64 k ∧ Hid (D s k = d) ∧ wr.rowIs w.heap.size 3 s.size (dep s k) ∧ Below w.heap.size w wr) (fun _ i _ => s.size - (intOf i).toNat)
  case atStart => exact ⟨0, 0, Nat.zero_le _, rfl, rfl, rfl, hr0, (Below.refl _ _).alloc (Nat.le_refl _) _⟩
  case round =>
    obtain ⟨k, d, hk, rfl, rfl, hd, hrow, hbel⟩ := hrel
    clear hr0
    by_cases hlt : k < s.size
    · have e2 := hrow.cell hlt
      have e3 := hrow.frozen k
      have hz : (k : Int) < (s.size : Int) := by omega
      have hb : -(k : Int) ≤ d ∧ d ≤ k := by have := D_le s k; rw [hd.out] at this; exact this
      obtain ⟨b1, b2⟩ := hb
      have hbel' := hbel.setCell (p := ⟨w.heap.size, k, none⟩) (Nat.le_refl _) (.int .i64 d)
      have X : Hid ((wr.setCell ⟨w.heap.size, k, none⟩ (.int .i64 d)).rowIs w.heap.size 3 s.size (dep s (k + 1))) := by
        have := dep_step hrow
        rw [hd.out] at this
        exact this
      obtain ⟨c, hc⟩ : ∃ c, (s[k]'hlt).toNat = c := ⟨_, rfl⟩
      have N : Hid (D s (k + 1) = if c = 123 then d + 1 else if c = 125 then d - 1 else d) := by
        show D s (k + 1) = _
        rw [D, bt_at s k hlt, hc, hd.out]
      clear hrow hbel hd
      by_cases c1 : c = 123
      · subst c1
        go_wp2
        go_roundw
        case rel => exact ⟨k + 1, d + 1, by omega, by go_num, by go_num, (by have := N.out; simp at this; exact this), X.out, hbel'⟩
        case measure => simp [intOf]; omega
      by_cases c2 : c = 125
      · subst c2
        go_wp2
        go_roundw
        case rel => exact ⟨k + 1, d - 1, by omega, by go_num, by go_num, (by have := N.out; simp at this; exact this), X.out, hbel'⟩
        case measure => simp [intOf]; omega
      · have n1 : ¬ (c : Int) = 123 := by omega
        have n2 : ¬ (c : Int) = 125 := by omega
        go_wp2
        go_roundw
        case rel => exact ⟨k + 1, d, by omega, by go_num, by go_num, (by have := N.out; rw [if_neg c1, if_neg c2] at this; exact this), X.out, hbel'⟩
        case measure => simp [intOf]; omega
    · go_wp2
      obtain rfl : k = s.size := by omega
      clear hd
      go_loop [8, 9] (fun st i => ∃ m : Nat, m ≤ s.size ∧ st = .int .i64 0 ∧ i = .int .i64 ((m : Int) - 1) ∧ Hid (St s s.size = St s m)) (fun _ i => (intOf i + 1).toNat)
      case atStart => exact ⟨s.size, Nat.le_refl _, rfl, rfl, rfl⟩
      case round =>
        obtain ⟨m, hm, rfl, rfl, HSm⟩ := hrel
        cases m with
        | zero =>
          have HS : Hid (St s s.size = 0) := HSm.out
          clear HSm
          rw [show ((0 : Nat) : Int) - 1 = -1 from rfl]
          go_wp2
          go_loop [10, 11] (fun co i => ∃ m : Nat, m ≤ s.size ∧ co = .int .i64 (-1) ∧ i = .int .i64 ((m : Int) - 1) ∧ Hid (LC s (0) s.size = LC s (0) m)) (fun _ i => (intOf i + 1).toNat)
          case atStart => exact ⟨s.size, Nat.le_refl _, rfl, rfl, rfl⟩
          case round =>
            obtain ⟨m, hm, rfl, rfl, HL⟩ := hrel
            by_cases hms : (m : Int) ≤ 0
            · have R : Hid (LC s (0) s.size = -1) := HL.out.trans (LC_low s _ m hms)
              clear HL
              go_wp2
              go_ret2
              exact ⟨by rw [HS.out, R.out]; rfl, hbel⟩
            · obtain ⟨j, rfl⟩ : ∃ j, m = j + 1 := ⟨m - 1, by omega⟩
              have hj : j < s.size := by omega
              have hjz : (j : Int) < (s.size : Int) := by omega
              have hsj : 0 ≤ (j : Int) := by omega
              rw [show (((j + 1 : Nat)) : Int) - 1 = (j : Int) from by omega]
              obtain ⟨dj, hdj⟩ : ∃ dj, D s j = dj := ⟨_, rfl⟩
              obtain ⟨c, hc⟩ : ∃ c, (s[j]'hj).toNat = c := ⟨_, rfl⟩
              have e1 : wr.cell? ⟨w.heap.size, j, none⟩ = some (.int .i64 dj) := by rw [hrow.cell hj, ← hdj]; simp [dep, hj]
              have N : Hid (LC s (0) (j + 1) = if c = 58 ∧ dj = 0 then (j : Int) else LC s (0) j) := by
                show LC s (0) (j + 1) = _
                rw [LC, bt_at s j hj, hc, hdj]
                by_cases x : c = 58 ∧ dj = 0
                · rw [if_pos x, if_pos ⟨hsj, x⟩]
                · rw [if_neg x, if_neg (fun y => x y.2)]
              have HR : Hid (wr.rowIs w.heap.size 3 s.size (dep s s.size)) := hrow
              clear hdj hrow
              by_cases c1 : c = 58
              · subst c1
                by_cases c2 : dj = 0
                · subst c2
                  go_wp2
                  go_ret2
                  exact ⟨by rw [HS.out, HL.out, N.out]; rfl, hbel⟩
                · have c3 : (dj == 0) = false := by simpa using c2
                  go_wp2
                  go_round
                  case rel => exact ⟨j, by omega, rfl, rfl, HL.out.trans (N.out.trans (if_neg (fun y => c2 y.2)))⟩
                  case measure => simp [intOf]
              · have c3 : ¬ (c : Int) = 58 := by omega
                go_wp2
                go_round
                case rel => exact ⟨j, by omega, rfl, rfl, HL.out.trans (N.out.trans (if_neg (fun y => c1 y.1)))⟩
                case measure => simp [intOf]
        | succ j =>
          have hj : j < s.size := by omega
          have hjz : (j : Int) < (s.size : Int) := by omega
          rw [show (((j + 1 : Nat)) : Int) - 1 = (j : Int) from by omega]
          obtain ⟨dj, hdj⟩ : ∃ dj, D s j = dj := ⟨_, rfl⟩
          obtain ⟨c, hc⟩ : ∃ c, (s[j]'hj).toNat = c := ⟨_, rfl⟩
          have e1 : wr.cell? ⟨w.heap.size, j, none⟩ = some (.int .i64 dj) := by rw [hrow.cell hj, ← hdj]; simp [dep, hj]
          have N : Hid (St s (j + 1) = if c = 47 ∧ dj = 0 then (j : Int) + 1 else St s j) := by
            show St s (j + 1) = _
            rw [St, bt_at s j hj, hc, hdj]
          have HR : Hid (wr.rowIs w.heap.size 3 s.size (dep s s.size)) := hrow
          clear hdj hrow
          by_cases c1 : c = 47
          · subst c1
            by_cases c2 : dj = 0
            · subst c2
              have HS : Hid (St s s.size = (j : Int) + 1) := HSm.out.trans N.out
              go_wp2
              have hrow := HR.out
              clear e1 N HSm hc HR
              go_loop [10, 11] (fun co v => ∃ m : Nat, m ≤ s.size ∧ co = .int .i64 (-1) ∧ v = .int .i64 ((m : Int) - 1) ∧ Hid (LC s ((j : Int) + 1) s.size = LC s ((j : Int) + 1) m)) (fun _ v => (intOf v + 1).toNat)
              case atStart => exact ⟨s.size, Nat.le_refl _, rfl, rfl, rfl⟩
              case round =>
                obtain ⟨m, hm, rfl, rfl, HL⟩ := hrel
                by_cases hms : (m : Int) ≤ (j : Int) + 1
                · have R : Hid (LC s ((j : Int) + 1) s.size = -1) := HL.out.trans (LC_low s _ m hms)
                  clear HL
                  go_wp2
                  go_ret2
                  exact ⟨by rw [HS.out, R.out]; rfl, hbel⟩
                · obtain ⟨i, rfl⟩ : ∃ i, m = i + 1 := ⟨m - 1, by omega⟩
                  have hi : i < s.size := by omega
                  have hiz : (i : Int) < (s.size : Int) := by omega
                  have hsi : (j : Int) + 1 ≤ (i : Int) := by omega
                  rw [show (((i + 1 : Nat)) : Int) - 1 = (i : Int) from by omega]
                  obtain ⟨dj, hdj⟩ : ∃ dj, D s i = dj := ⟨_, rfl⟩
                  obtain ⟨c, hc⟩ : ∃ c, (s[i]'hi).toNat = c := ⟨_, rfl⟩
                  have e1 : wr.cell? ⟨w.heap.size, i, none⟩ = some (.int .i64 dj) := by rw [hrow.cell hi, ← hdj]; simp [dep, hi]
                  have N : Hid (LC s ((j : Int) + 1) (i + 1) = if c = 58 ∧ dj = 0 then (i : Int) else LC s ((j : Int) + 1) i) := by
                    show LC s ((j : Int) + 1) (i + 1) = _
                    rw [LC, bt_at s i hi, hc, hdj]
                    by_cases x : c = 58 ∧ dj = 0
                    · rw [if_pos x, if_pos ⟨hsi, x⟩]
                    · rw [if_neg x, if_neg (fun y => x y.2)]
                  have HR : Hid (wr.rowIs w.heap.size 3 s.size (dep s s.size)) := hrow
                  clear hdj hrow
                  by_cases c1 : c = 58
                  · subst c1
                    by_cases c2 : dj = 0
                    · subst c2
                      go_wp2
                      go_ret2
                      exact ⟨by rw [HS.out, HL.out, N.out]; rfl, hbel⟩
                    · have c3 : (dj == 0) = false := by simpa using c2
                      go_wp2
                      go_round
                      case rel => exact ⟨i, by omega, rfl, rfl, HL.out.trans (N.out.trans (if_neg (fun y => c2 y.2)))⟩
                      case measure => simp [intOf]
                  · have c3 : ¬ (c : Int) = 58 := by omega
                    go_wp2
                    go_round
                    case rel => exact ⟨i, by omega, rfl, rfl, HL.out.trans (N.out.trans (if_neg (fun y => c1 y.1)))⟩
                    case measure => simp [intOf]
            · have c3 : (dj == 0) = false := by simpa using c2
              go_wp2
              go_round
              case rel => exact ⟨j, by omega, rfl, rfl, HSm.out.trans (N.out.trans (if_neg (fun y => c2 y.2)))⟩
              case measure => simp [intOf]
          · have c3 : ¬ (c : Int) = 47 := by omega
            go_wp2
            go_round
            case rel => exact ⟨j, by omega, rfl, rfl, HSm.out.trans (N.out.trans (if_neg (fun y => c1 y.1)))⟩
            case measure => simp [intOf]
end Go.Proofs.Qxb6602697a
