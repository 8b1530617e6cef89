import Derived.Test.Qxb6003566aParts
namespace Go.Proofs.Qxb6003566a
open Go.RowKit

set_option maxHeartbeats 800000 in
theorem max_walk (ts tc us uc : Int) (w : World) :
    Calls Try.prog 5 #[.int .i64 ts, .int .i64 tc, .int .i64 us, .int .i64 uc] w fun e w' => e = .returned (.bool true) ∧ Grown w w' := by
  by_cases g1 : ts < us
  · go_enter Try.func5, Try.ntmps5
    go_wp2_with fail
    refine (zlater_yes ts tc us uc _ (.inl g1)).mono ?_
    rintro e w1 ⟨rfl, hf⟩
    go_wp2_with fail
    refine (lex_no us uc ts tc _ (.inl g1)).mono ?_
    rintro e w2 ⟨rfl, rfl⟩
    go_wp2_with fail
    refine (lex_no us uc us uc _ (by omega)).mono ?_
    rintro e w2 ⟨rfl, rfl⟩
    go_wp2
    go_ret
    exact ⟨rfl, hf.1⟩
  by_cases g2 : us < ts
  · go_enter Try.func5, Try.ntmps5
    go_wp2_with fail
    refine (zlater_no ts tc us uc _ (.inl g2)).mono ?_
    rintro e w1 ⟨rfl, hf⟩
    go_wp2_with fail
    refine (lex_no ts tc ts tc _ (by omega)).mono ?_
    rintro e w2 ⟨rfl, rfl⟩
    go_wp2_with fail
    refine (lex_no ts tc us uc _ (.inl g2)).mono ?_
    rintro e w2 ⟨rfl, rfl⟩
    go_wp2
    go_ret
    exact ⟨rfl, hf.1⟩
  obtain rfl : ts = us := by omega
  by_cases g3 : tc < uc
  · go_enter Try.func5, Try.ntmps5
    go_wp2_with fail
    refine (zlater_yes ts tc ts uc _ (.inr ⟨rfl, g3⟩)).mono ?_
    rintro e w1 ⟨rfl, hf⟩
    go_wp2_with fail
    refine (lex_no ts uc ts tc _ (by omega)).mono ?_
    rintro e w2 ⟨rfl, rfl⟩
    go_wp2_with fail
    refine (lex_no ts uc ts uc _ (by omega)).mono ?_
    rintro e w2 ⟨rfl, rfl⟩
    go_wp2
    go_ret
    exact ⟨rfl, hf.1⟩
  · go_enter Try.func5, Try.ntmps5
    go_wp2_with fail
    refine (zlater_no ts tc ts uc _ (by omega)).mono ?_
    rintro e w1 ⟨rfl, hf⟩
    go_wp2_with fail
    all_goals (refine (lex_no ts tc ts tc _ (by omega)).mono ?_; rintro e w2 ⟨rfl, rfl⟩)
    go_wp2_with fail
    all_goals (refine (lex_no ts tc ts uc _ (by omega)).mono ?_; rintro e w2 ⟨rfl, rfl⟩)
    go_wp2
    all_goals (go_ret; exact ⟨rfl, hf.1⟩)

set_option maxHeartbeats 800000 in
theorem tickis_walk (k s c : Int) (w : World) (hc : c ≤ 9223372036854775807) :
    Calls Try.prog 6 #[.int .i64 k, .int .i64 s, .int .i64 c] w fun e w' => e = .returned (.bool true) ∧ Grown w w' := by
  by_cases g1 : c < 0
  · go_enter Try.func6, Try.ntmps6
    go_wp2
    go_ret
    exact ⟨rfl, Grown.refl _⟩
  by_cases g2 : c = 9223372036854775807
  · subst g2
    go_enter Try.func6, Try.ntmps6
    go_wp2
    go_ret
    exact ⟨rfl, Grown.refl _⟩
  have g3 : 0 ≤ c := by omega
  have g4 : c < 9223372036854775807 := by omega
  by_cases g5 : s < k
  · go_enter Try.func6, Try.ntmps6
    go_wp2_with fail
    refine (ztick_ahead k s c _ g5).mono ?_
    rintro e w1 ⟨rfl, hf⟩
    go_wp2_with fail
    refine (zlater_yes s (c + 1) k 0 _ (.inl g5)).mono ?_
    rintro e w2 ⟨rfl, hf2⟩
    go_wp2
    go_ret
    exact ⟨rfl, (hf.trans hf2).1⟩
  · go_enter Try.func6, Try.ntmps6
    go_wp2_with fail
    refine (ztick_on k s c _ (by omega) g3 g4).mono ?_
    rintro e w1 ⟨rfl, hf⟩
    go_wp2_with fail
    refine (zlater_no s (c + 1) k 0 _ (by omega)).mono ?_
    rintro e w2 ⟨rfl, hf2⟩
    go_wp2
    go_ret
    exact ⟨rfl, (hf.trans hf2).1⟩
end Go.Proofs.Qxb6003566a
