/-
  No cell of these rows narrows 'for every input' (looked for: loops, veiled, ifaces, maps, wideKeys, modest, calm, conditions, laid).
  DERIVED. THE GIVEN ROWS OF THIS SEAT. 5 by the template 'for every input the law returns true; each argument reads behind the call as it read before'; 0 by the template 'total and deterministic' (their statements: Qxb6003565aTotals.lean).
  GIVEN WITH THE SEED: the statements are not yours to turn. If you find one false, say at which input.
  Laid BY PROGRAM, IN A SANDBOX (cutbox-rows.mjs): the forced cells as the released guide's own fill.sh prints them over the translation 7af707f722d09ab3… (all of the seat's roots in one cut). By AI agents, Wed Nov 11 2026. No macro, syntax, notation, axiom, sorry.
-/
import Derived.Test.Qxb6003565aChecked
import GoSem.Claim
import GoSem.ClaimJoined
import GoSem.ClaimMapViews
import Derived.JoinedTies
import Derived.KernelRfl
namespace Go.Proofs.Qxb6003565a
/- THE CELL 'sum', in the pinned program and in every row, IS THE sha256 OF THE DUMP (.gsa) THAT Qxb6003565aProg.lean LOADS. Nothing in Lean hashes anything: it is a label: what it is worth is what the hold of that sum in a sandbox is worth. -/
noncomputable def Try.pinned : Pinned := { name := "qxb6003565a", sum := "7af707f722d09ab34c99af62c4b152df3918cafa70b91b18893399f66fda8077", checked := Try.checked }
namespace Rows
def none {H : Type} : Left H := { results := [], args := [] }

/-- 'zzlaws_mrt_b2.FnCursorBytesReadsConsecutivePieces': WHATEVER THE INPUT: true; the input reads as it did. -/
def fnCursorBytesReadsConsecutivePiecesSpec : ChangeSpec := { name := "fnCursorBytesReadsConsecutivePieces", fn := fun _ => fun
  | [d1, d2, d3] => { results := [.lit (.bool true)], args := [d1, d2, d3] }
  | _ => none }
def fnCursorBytesReadsConsecutivePiecesRow : OpenClaim := { program := "qxb6003565a", sum := "7af707f722d09ab34c99af62c4b152df3918cafa70b91b18893399f66fda8077", func := "example.com/roundcall/roundcall/zzlaws_mrt_b2.FnCursorBytesReadsConsecutivePieces", spec := "fnCursorBytesReadsConsecutivePieces", apart := false }
def FnCursorBytesReadsConsecutivePiecesSaid : Prop := fnCursorBytesReadsConsecutivePiecesRow.holds Try.pinned (OpenSpec.ofChange fnCursorBytesReadsConsecutivePiecesSpec)

/-- ITS FALSE NEIGHBOUR: 'it returns false'. Refute it at one input. -/
def fnCursorBytesReadsConsecutivePiecesWrong : ChangeSpec := { name := "fnCursorBytesReadsConsecutivePieces", fn := fun _ => fun
  | [d1, d2, d3] => { results := [.lit (.bool false)], args := [d1, d2, d3] }
  | _ => none }
def FnCursorBytesReadsConsecutivePiecesWrongFalsely : Prop := fnCursorBytesReadsConsecutivePiecesRow.holds Try.pinned (OpenSpec.ofChange fnCursorBytesReadsConsecutivePiecesWrong)

/-- 'zzlaws_mrt_b2.FnCursorBytesPieceAppendLeavesRest': WHATEVER THE INPUT: true; the input reads as it did. -/
def fnCursorBytesPieceAppendLeavesRestSpec : ChangeSpec := { name := "fnCursorBytesPieceAppendLeavesRest", fn := fun _ => fun
  | [d1, d2, d3] => { results := [.lit (.bool true)], args := [d1, d2, d3] }
  | _ => none }
def fnCursorBytesPieceAppendLeavesRestRow : OpenClaim := { program := "qxb6003565a", sum := "7af707f722d09ab34c99af62c4b152df3918cafa70b91b18893399f66fda8077", func := "example.com/roundcall/roundcall/zzlaws_mrt_b2.FnCursorBytesPieceAppendLeavesRest", spec := "fnCursorBytesPieceAppendLeavesRest", apart := false }
def FnCursorBytesPieceAppendLeavesRestSaid : Prop := fnCursorBytesPieceAppendLeavesRestRow.holds Try.pinned (OpenSpec.ofChange fnCursorBytesPieceAppendLeavesRestSpec)

/-- ITS FALSE NEIGHBOUR: 'it returns false'. Refute it at one input. -/
def fnCursorBytesPieceAppendLeavesRestWrong : ChangeSpec := { name := "fnCursorBytesPieceAppendLeavesRest", fn := fun _ => fun
  | [d1, d2, d3] => { results := [.lit (.bool false)], args := [d1, d2, d3] }
  | _ => none }
def FnCursorBytesPieceAppendLeavesRestWrongFalsely : Prop := fnCursorBytesPieceAppendLeavesRestRow.holds Try.pinned (OpenSpec.ofChange fnCursorBytesPieceAppendLeavesRestWrong)

/-- 'zzlaws_mrt_b2.FnCursorBytesTwoReadsEqualOne': WHATEVER THE INPUT: true; the input reads as it did. -/
def fnCursorBytesTwoReadsEqualOneSpec : ChangeSpec := { name := "fnCursorBytesTwoReadsEqualOne", fn := fun _ => fun
  | [d1, d2, d3, d4] => { results := [.lit (.bool true)], args := [d1, d2, d3, d4] }
  | _ => none }
def fnCursorBytesTwoReadsEqualOneRow : OpenClaim := { program := "qxb6003565a", sum := "7af707f722d09ab34c99af62c4b152df3918cafa70b91b18893399f66fda8077", func := "example.com/roundcall/roundcall/zzlaws_mrt_b2.FnCursorBytesTwoReadsEqualOne", spec := "fnCursorBytesTwoReadsEqualOne", apart := false }
def FnCursorBytesTwoReadsEqualOneSaid : Prop := fnCursorBytesTwoReadsEqualOneRow.holds Try.pinned (OpenSpec.ofChange fnCursorBytesTwoReadsEqualOneSpec)

/-- ITS FALSE NEIGHBOUR: 'it returns false'. Refute it at one input. -/
def fnCursorBytesTwoReadsEqualOneWrong : ChangeSpec := { name := "fnCursorBytesTwoReadsEqualOne", fn := fun _ => fun
  | [d1, d2, d3, d4] => { results := [.lit (.bool false)], args := [d1, d2, d3, d4] }
  | _ => none }
def FnCursorBytesTwoReadsEqualOneWrongFalsely : Prop := fnCursorBytesTwoReadsEqualOneRow.holds Try.pinned (OpenSpec.ofChange fnCursorBytesTwoReadsEqualOneWrong)

/-- 'zzlaws_mrt_b2.FnIsBzip2DecidedByFirstTenBytes': WHATEVER THE INPUT: true; the input reads as it did. -/
def fnIsBzip2DecidedByFirstTenBytesSpec : ChangeSpec := { name := "fnIsBzip2DecidedByFirstTenBytes", fn := fun _ => fun
  | [d1, d2] => { results := [.lit (.bool true)], args := [d1, d2] }
  | _ => none }
def fnIsBzip2DecidedByFirstTenBytesRow : OpenClaim := { program := "qxb6003565a", sum := "7af707f722d09ab34c99af62c4b152df3918cafa70b91b18893399f66fda8077", func := "example.com/roundcall/roundcall/zzlaws_mrt_b2.FnIsBzip2DecidedByFirstTenBytes", spec := "fnIsBzip2DecidedByFirstTenBytes", apart := false }
def FnIsBzip2DecidedByFirstTenBytesSaid : Prop := fnIsBzip2DecidedByFirstTenBytesRow.holds Try.pinned (OpenSpec.ofChange fnIsBzip2DecidedByFirstTenBytesSpec)

/-- ITS FALSE NEIGHBOUR: 'it returns false'. Refute it at one input. -/
def fnIsBzip2DecidedByFirstTenBytesWrong : ChangeSpec := { name := "fnIsBzip2DecidedByFirstTenBytes", fn := fun _ => fun
  | [d1, d2] => { results := [.lit (.bool false)], args := [d1, d2] }
  | _ => none }
def FnIsBzip2DecidedByFirstTenBytesWrongFalsely : Prop := fnIsBzip2DecidedByFirstTenBytesRow.holds Try.pinned (OpenSpec.ofChange fnIsBzip2DecidedByFirstTenBytesWrong)

/-- 'zzlaws_mrt_b2.FnIsBzip2RefusesAnyOtherMarkerByte': WHATEVER THE INPUT: true; the input reads as it did. -/
def fnIsBzip2RefusesAnyOtherMarkerByteSpec : ChangeSpec := { name := "fnIsBzip2RefusesAnyOtherMarkerByte", fn := fun _ => fun
  | [d1, d2, d3, d4, d5] => { results := [.lit (.bool true)], args := [d1, d2, d3, d4, d5] }
  | _ => none }
def fnIsBzip2RefusesAnyOtherMarkerByteRow : OpenClaim := { program := "qxb6003565a", sum := "7af707f722d09ab34c99af62c4b152df3918cafa70b91b18893399f66fda8077", func := "example.com/roundcall/roundcall/zzlaws_mrt_b2.FnIsBzip2RefusesAnyOtherMarkerByte", spec := "fnIsBzip2RefusesAnyOtherMarkerByte", apart := false }
def FnIsBzip2RefusesAnyOtherMarkerByteSaid : Prop := fnIsBzip2RefusesAnyOtherMarkerByteRow.holds Try.pinned (OpenSpec.ofChange fnIsBzip2RefusesAnyOtherMarkerByteSpec)

/-- ITS FALSE NEIGHBOUR: 'it returns false'. Refute it at one input. -/
def fnIsBzip2RefusesAnyOtherMarkerByteWrong : ChangeSpec := { name := "fnIsBzip2RefusesAnyOtherMarkerByte", fn := fun _ => fun
  | [d1, d2, d3, d4, d5] => { results := [.lit (.bool false)], args := [d1, d2, d3, d4, d5] }
  | _ => none }
def FnIsBzip2RefusesAnyOtherMarkerByteWrongFalsely : Prop := fnIsBzip2RefusesAnyOtherMarkerByteRow.holds Try.pinned (OpenSpec.ofChange fnIsBzip2RefusesAnyOtherMarkerByteWrong)

end Rows
end Go.Proofs.Qxb6003565a
