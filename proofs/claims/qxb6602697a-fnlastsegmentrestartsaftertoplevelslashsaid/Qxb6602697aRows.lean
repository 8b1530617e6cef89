/-
  No cell of these rows narrows 'for every input' (looked for: loops, veiled, ifaces, maps, wideKeys, modest, calm, conditions, laid).
  DERIVED. THE GIVEN ROWS OF THIS SEAT. 5 by the template 'for every input the law returns true; each argument reads behind the call as it read before'; 0 by the template 'total and deterministic' (their statements: Qxb6602697aTotals.lean).
  GIVEN WITH THE SEED: the statements are not yours to turn. If you find one false, say at which input.
  Laid BY PROGRAM, IN A SANDBOX (cutbox-rows.mjs): the forced cells as the released guide's own fill.sh prints them over the translation 99c288d98365ab22… (all of the seat's roots in one cut). By AI agents, Wed Nov 11 2026. No macro, syntax, notation, axiom, sorry.
-/
import Derived.Test.Qxb6602697aChecked
import GoSem.Claim
import GoSem.ClaimJoined
import GoSem.ClaimMapViews
import Derived.JoinedTies
import Derived.KernelRfl
namespace Go.Proofs.Qxb6602697a
/- THE CELL 'sum', in the pinned program and in every row, IS THE sha256 OF THE DUMP (.gsa) THAT Qxb6602697aProg.lean LOADS. Nothing in Lean hashes anything: it is a label: what it is worth is what the hold of that sum in a sandbox is worth. -/
noncomputable def Try.pinned : Pinned := { name := "qxb6602697a", sum := "99c288d98365ab22d66f51e75f9f1dbfec0859f84507c1ce698179cf37b94f29", checked := Try.checked }
namespace Rows
def none {H : Type} : Left H := { results := [], args := [] }

/-- 'zzlaws_internal_api_b1.FnLastSegmentMatchesModel': WHATEVER THE INPUT: true; the input reads as it did. -/
def fnLastSegmentMatchesModelSpec : ChangeSpec := { name := "fnLastSegmentMatchesModel", fn := fun _ => fun
  | [d1, d2, d3] => { results := [.lit (.bool true)], args := [d1, d2, d3] }
  | _ => none }
def fnLastSegmentMatchesModelRow : OpenClaim := { program := "qxb6602697a", sum := "99c288d98365ab22d66f51e75f9f1dbfec0859f84507c1ce698179cf37b94f29", func := "example.com/plumbline/plumbline/zzlaws_internal_api_b1.FnLastSegmentMatchesModel", spec := "fnLastSegmentMatchesModel", apart := false }
def FnLastSegmentMatchesModelSaid : Prop := fnLastSegmentMatchesModelRow.holds Try.pinned (OpenSpec.ofChange fnLastSegmentMatchesModelSpec)

/-- ITS FALSE NEIGHBOUR: 'it returns false'. Refute it at one input. -/
def fnLastSegmentMatchesModelWrong : ChangeSpec := { name := "fnLastSegmentMatchesModel", fn := fun _ => fun
  | [d1, d2, d3] => { results := [.lit (.bool false)], args := [d1, d2, d3] }
  | _ => none }
def FnLastSegmentMatchesModelWrongFalsely : Prop := fnLastSegmentMatchesModelRow.holds Try.pinned (OpenSpec.ofChange fnLastSegmentMatchesModelWrong)

/-- 'zzlaws_internal_api_b1.FnLastSegmentRestartsAfterTopLevelSlash': WHATEVER THE INPUT: true; the input reads as it did. -/
def fnLastSegmentRestartsAfterTopLevelSlashSpec : ChangeSpec := { name := "fnLastSegmentRestartsAfterTopLevelSlash", fn := fun _ => fun
  | [d1, d2, d3, d4] => { results := [.lit (.bool true)], args := [d1, d2, d3, d4] }
  | _ => none }
def fnLastSegmentRestartsAfterTopLevelSlashRow : OpenClaim := { program := "qxb6602697a", sum := "99c288d98365ab22d66f51e75f9f1dbfec0859f84507c1ce698179cf37b94f29", func := "example.com/plumbline/plumbline/zzlaws_internal_api_b1.FnLastSegmentRestartsAfterTopLevelSlash", spec := "fnLastSegmentRestartsAfterTopLevelSlash", apart := false }
def FnLastSegmentRestartsAfterTopLevelSlashSaid : Prop := fnLastSegmentRestartsAfterTopLevelSlashRow.holds Try.pinned (OpenSpec.ofChange fnLastSegmentRestartsAfterTopLevelSlashSpec)

/-- ITS FALSE NEIGHBOUR: 'it returns false'. Refute it at one input. -/
def fnLastSegmentRestartsAfterTopLevelSlashWrong : ChangeSpec := { name := "fnLastSegmentRestartsAfterTopLevelSlash", fn := fun _ => fun
  | [d1, d2, d3, d4] => { results := [.lit (.bool false)], args := [d1, d2, d3, d4] }
  | _ => none }
def FnLastSegmentRestartsAfterTopLevelSlashWrongFalsely : Prop := fnLastSegmentRestartsAfterTopLevelSlashRow.holds Try.pinned (OpenSpec.ofChange fnLastSegmentRestartsAfterTopLevelSlashWrong)

/-- 'zzlaws_internal_api_b1.FnLastSegmentIgnoresPlainSuffix': WHATEVER THE INPUT: true; the input reads as it did. -/
def fnLastSegmentIgnoresPlainSuffixSpec : ChangeSpec := { name := "fnLastSegmentIgnoresPlainSuffix", fn := fun _ => fun
  | [d1, d2, d3, d4] => { results := [.lit (.bool true)], args := [d1, d2, d3, d4] }
  | _ => none }
def fnLastSegmentIgnoresPlainSuffixRow : OpenClaim := { program := "qxb6602697a", sum := "99c288d98365ab22d66f51e75f9f1dbfec0859f84507c1ce698179cf37b94f29", func := "example.com/plumbline/plumbline/zzlaws_internal_api_b1.FnLastSegmentIgnoresPlainSuffix", spec := "fnLastSegmentIgnoresPlainSuffix", apart := false }
def FnLastSegmentIgnoresPlainSuffixSaid : Prop := fnLastSegmentIgnoresPlainSuffixRow.holds Try.pinned (OpenSpec.ofChange fnLastSegmentIgnoresPlainSuffixSpec)

/-- ITS FALSE NEIGHBOUR: 'it returns false'. Refute it at one input. -/
def fnLastSegmentIgnoresPlainSuffixWrong : ChangeSpec := { name := "fnLastSegmentIgnoresPlainSuffix", fn := fun _ => fun
  | [d1, d2, d3, d4] => { results := [.lit (.bool false)], args := [d1, d2, d3, d4] }
  | _ => none }
def FnLastSegmentIgnoresPlainSuffixWrongFalsely : Prop := fnLastSegmentIgnoresPlainSuffixRow.holds Try.pinned (OpenSpec.ofChange fnLastSegmentIgnoresPlainSuffixWrong)

/-- 'zzlaws_internal_api_b1.FnEndsInVariableMatchesModel': WHATEVER THE INPUT: true; the input reads as it did. -/
def fnEndsInVariableMatchesModelSpec : ChangeSpec := { name := "fnEndsInVariableMatchesModel", fn := fun _ => fun
  | [d1, d2, d3] => { results := [.lit (.bool true)], args := [d1, d2, d3] }
  | _ => none }
def fnEndsInVariableMatchesModelRow : OpenClaim := { program := "qxb6602697a", sum := "99c288d98365ab22d66f51e75f9f1dbfec0859f84507c1ce698179cf37b94f29", func := "example.com/plumbline/plumbline/zzlaws_internal_api_b1.FnEndsInVariableMatchesModel", spec := "fnEndsInVariableMatchesModel", inPlace := ["internal/bytealg.IndexByteString"], apart := false }
def FnEndsInVariableMatchesModelSaid : Prop := fnEndsInVariableMatchesModelRow.holds Try.pinned (OpenSpec.ofChange fnEndsInVariableMatchesModelSpec)

/-- ITS FALSE NEIGHBOUR: 'it returns false'. Refute it at one input. -/
def fnEndsInVariableMatchesModelWrong : ChangeSpec := { name := "fnEndsInVariableMatchesModel", fn := fun _ => fun
  | [d1, d2, d3] => { results := [.lit (.bool false)], args := [d1, d2, d3] }
  | _ => none }
def FnEndsInVariableMatchesModelWrongFalsely : Prop := fnEndsInVariableMatchesModelRow.holds Try.pinned (OpenSpec.ofChange fnEndsInVariableMatchesModelWrong)

/-- 'zzlaws_internal_api_b1.FnEndsInVariableOnBuiltPaths': WHATEVER THE INPUT: true; the input reads as it did. -/
def fnEndsInVariableOnBuiltPathsSpec : ChangeSpec := { name := "fnEndsInVariableOnBuiltPaths", fn := fun _ => fun
  | [d1, d2, d3, d4, d5, d6] => { results := [.lit (.bool true)], args := [d1, d2, d3, d4, d5, d6] }
  | _ => none }
def fnEndsInVariableOnBuiltPathsRow : OpenClaim := { program := "qxb6602697a", sum := "99c288d98365ab22d66f51e75f9f1dbfec0859f84507c1ce698179cf37b94f29", func := "example.com/plumbline/plumbline/zzlaws_internal_api_b1.FnEndsInVariableOnBuiltPaths", spec := "fnEndsInVariableOnBuiltPaths", inPlace := ["internal/bytealg.IndexByteString"], apart := false }
def FnEndsInVariableOnBuiltPathsSaid : Prop := fnEndsInVariableOnBuiltPathsRow.holds Try.pinned (OpenSpec.ofChange fnEndsInVariableOnBuiltPathsSpec)

/-- ITS FALSE NEIGHBOUR: 'it returns false'. Refute it at one input. -/
def fnEndsInVariableOnBuiltPathsWrong : ChangeSpec := { name := "fnEndsInVariableOnBuiltPaths", fn := fun _ => fun
  | [d1, d2, d3, d4, d5, d6] => { results := [.lit (.bool false)], args := [d1, d2, d3, d4, d5, d6] }
  | _ => none }
def FnEndsInVariableOnBuiltPathsWrongFalsely : Prop := fnEndsInVariableOnBuiltPathsRow.holds Try.pinned (OpenSpec.ofChange fnEndsInVariableOnBuiltPathsWrong)

end Rows
end Go.Proofs.Qxb6602697a
