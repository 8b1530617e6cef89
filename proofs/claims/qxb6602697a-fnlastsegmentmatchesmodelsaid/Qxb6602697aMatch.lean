import Derived.Test.Qxb6602697aModel
namespace Go.Proofs.Qxb6602697a
open Go.RowKit

theorem model_co (s : ByteArray) (w : World) (hs : s.size ≤ 4194304) :
    Calls Try.prog 10 #[.string s] w fun e w' => e = .returned (.tuple #[.int .i64 (St s s.size), .int .i64 (Co s s.size)]) ∧ Below w.heap.size w w' := by
  rw [Co_LC]
  exact model_any s w hs

set_option maxHeartbeats 800000 in
theorem match_walk (x s y : ByteArray) (w : World) (h1 : x.size ≤ 9223372036854775807) (h2 : s.size ≤ 9223372036854775807) (h3 : y.size ≤ 9223372036854775807) :
    Calls Try.prog 3 #[.string x, .string s, .string y] w fun e w' => e = .returned (.bool true) ∧ Below w.heap.size w w' := by
  by_cases g : 1048576 < x.size + s.size + y.size
  · go_enter Try.func3, Try.ntmps3
    go_wp2_with (go_at_call 8; refine (guard8_no x s y _ g h1 h2 h3).mono ?_; rintro e w' ⟨rfl, rfl⟩)
    go_ret
    exact ⟨rfl, Below.refl _ _⟩
  · clear h1 h2 h3
    have g1 : x.size ≤ 1048576 := by omega
    have g2 : s.size ≤ 1048576 := by omega
    have g3 : y.size ≤ 1048576 := by omega
    have g4 : (x.size : Int) + s.size + y.size ≤ 1048576 := by omega
    go_enter Try.func3, Try.ntmps3
    go_wp2_with fail
    refine (guard8 x s y _ (by omega)).mono ?_
    rintro e w' ⟨rfl, rfl⟩
    go_wp2_with fail
    refine (zseg_any x s y _ (by omega)).mono ?_
    rintro e w1 ⟨rfl, hb1⟩
    go_wp2_with fail
    refine (model_co s _ (by omega)).mono ?_
    rintro e w2 ⟨rfl, hb2⟩
    go_wp2
    go_ret
    exact ⟨rfl, hb1.trans (hb2.mono hb1.size)⟩
end Go.Proofs.Qxb6602697a
