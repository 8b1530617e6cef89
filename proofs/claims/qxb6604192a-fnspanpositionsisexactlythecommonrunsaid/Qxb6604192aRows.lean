/-
  No cell of these rows narrows 'for every input' (looked for: loops, veiled, ifaces, maps, wideKeys, modest, calm, conditions, laid).
  DERIVED. THE GIVEN ROWS OF THIS SEAT. 1 by the template 'for every input the law returns true; each argument reads behind the call as it read before'; 0 by the template 'total and deterministic' (their statements: Qxb6604192aTotals.lean).
  GIVEN WITH THE SEED: the statements are not yours to turn. If you find one false, say at which input.
  Laid BY PROGRAM, IN A SANDBOX (cutbox-rows.mjs): the forced cells as the released guide's own fill.sh prints them over the translation 4637d12cfcfd26b1… (all of the seat's roots in one cut). By AI agents, Wed Nov 11 2026. No macro, syntax, notation, axiom, sorry.
-/
import Derived.Test.Qxb6604192aChecked
import GoSem.Claim
import GoSem.ClaimJoined
import GoSem.ClaimMapViews
import Derived.JoinedTies
import Derived.KernelRfl
namespace Go.Proofs.Qxb6604192a
/- THE CELL 'sum', in the pinned program and in every row, IS THE sha256 OF THE DUMP (.gsa) THAT Qxb6604192aProg.lean LOADS. Nothing in Lean hashes anything: it is a label: what it is worth is what the hold of that sum in a sandbox is worth. -/
noncomputable def Try.pinned : Pinned := { name := "qxb6604192a", sum := "4637d12cfcfd26b1e632fb3f4154b2d797309a0fd8f815d7a682fe702c8f2d27", checked := Try.checked }
namespace Rows
def none {H : Type} : Left H := { results := [], args := [] }

/-- 'zzlaws_blocktree_b1.FnSpanPositionsIsExactlyTheCommonRun': WHATEVER THE INPUT: true; the input reads as it did. -/
def fnSpanPositionsIsExactlyTheCommonRunSpec : ChangeSpec := { name := "fnSpanPositionsIsExactlyTheCommonRun", fn := fun _ => fun
  | [d1, d2, d3] => { results := [.lit (.bool true)], args := [d1, d2, d3] }
  | _ => none }
def fnSpanPositionsIsExactlyTheCommonRunRow : OpenClaim := { program := "qxb6604192a", sum := "4637d12cfcfd26b1e632fb3f4154b2d797309a0fd8f815d7a682fe702c8f2d27", func := "example.com/holdfast/holdfast/zzlaws_blocktree_b1.FnSpanPositionsIsExactlyTheCommonRun", spec := "fnSpanPositionsIsExactlyTheCommonRun", apart := false }
def FnSpanPositionsIsExactlyTheCommonRunSaid : Prop := fnSpanPositionsIsExactlyTheCommonRunRow.holds Try.pinned (OpenSpec.ofChange fnSpanPositionsIsExactlyTheCommonRunSpec)

/-- ITS FALSE NEIGHBOUR: 'it returns false'. Refute it at one input. -/
def fnSpanPositionsIsExactlyTheCommonRunWrong : ChangeSpec := { name := "fnSpanPositionsIsExactlyTheCommonRun", fn := fun _ => fun
  | [d1, d2, d3] => { results := [.lit (.bool false)], args := [d1, d2, d3] }
  | _ => none }
def FnSpanPositionsIsExactlyTheCommonRunWrongFalsely : Prop := fnSpanPositionsIsExactlyTheCommonRunRow.holds Try.pinned (OpenSpec.ofChange fnSpanPositionsIsExactlyTheCommonRunWrong)

end Rows
end Go.Proofs.Qxb6604192a
