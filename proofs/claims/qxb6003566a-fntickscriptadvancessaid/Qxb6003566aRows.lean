/-
  No cell of these rows narrows 'for every input' (looked for: loops, veiled, ifaces, maps, wideKeys, modest, calm, conditions, laid).
  DERIVED. THE GIVEN ROWS OF THIS SEAT. 5 by the template 'for every input the law returns true; each argument reads behind the call as it read before'; 0 by the template 'total and deterministic' (their statements: Qxb6003566aTotals.lean).
  GIVEN WITH THE SEED: the statements are not yours to turn. If you find one false, say at which input.
  Laid BY PROGRAM, IN A SANDBOX (cutbox-rows.mjs): the forced cells as the released guide's own fill.sh prints them over the translation 8ab40555d9c9540c… (all of the seat's roots in one cut). By AI agents, Wed Nov 11 2026. No macro, syntax, notation, axiom, sorry.
-/
import Derived.Test.Qxb6003566aChecked
import GoSem.Claim
import GoSem.ClaimJoined
import GoSem.ClaimMapViews
import Derived.JoinedTies
import Derived.KernelRfl
namespace Go.Proofs.Qxb6003566a
/- THE CELL 'sum', in the pinned program and in every row, IS THE sha256 OF THE DUMP (.gsa) THAT Qxb6003566aProg.lean LOADS. Nothing in Lean hashes anything: it is a label: what it is worth is what the hold of that sum in a sandbox is worth. -/
noncomputable def Try.pinned : Pinned := { name := "qxb6003566a", sum := "8ab40555d9c9540cad7c25d32f5d77aa5d3c7bb644dce1e9daa9e81aac6308bb", checked := Try.checked }
namespace Rows
def none {H : Type} : Left H := { results := [], args := [] }

/-- 'zzlaws_internal_simulation_b2.FnLaterCommutative': WHATEVER THE INPUT: true; the input reads as it did. -/
def fnLaterCommutativeSpec : ChangeSpec := { name := "fnLaterCommutative", fn := fun _ => fun
  | [d1, d2, d3, d4] => { results := [.lit (.bool true)], args := [d1, d2, d3, d4] }
  | _ => none }
def fnLaterCommutativeRow : OpenClaim := { program := "qxb6003566a", sum := "8ab40555d9c9540cad7c25d32f5d77aa5d3c7bb644dce1e9daa9e81aac6308bb", func := "example.com/visarion/visarion/zzlaws_internal_simulation_b2.FnLaterCommutative", spec := "fnLaterCommutative", apart := false }
def FnLaterCommutativeSaid : Prop := fnLaterCommutativeRow.holds Try.pinned (OpenSpec.ofChange fnLaterCommutativeSpec)

/-- ITS FALSE NEIGHBOUR: 'it returns false'. Refute it at one input. -/
def fnLaterCommutativeWrong : ChangeSpec := { name := "fnLaterCommutative", fn := fun _ => fun
  | [d1, d2, d3, d4] => { results := [.lit (.bool false)], args := [d1, d2, d3, d4] }
  | _ => none }
def FnLaterCommutativeWrongFalsely : Prop := fnLaterCommutativeRow.holds Try.pinned (OpenSpec.ofChange fnLaterCommutativeWrong)

/-- 'zzlaws_internal_simulation_b2.FnLaterAssociative': WHATEVER THE INPUT: true; the input reads as it did. -/
def fnLaterAssociativeSpec : ChangeSpec := { name := "fnLaterAssociative", fn := fun _ => fun
  | [d1, d2, d3, d4, d5, d6] => { results := [.lit (.bool true)], args := [d1, d2, d3, d4, d5, d6] }
  | _ => none }
def fnLaterAssociativeRow : OpenClaim := { program := "qxb6003566a", sum := "8ab40555d9c9540cad7c25d32f5d77aa5d3c7bb644dce1e9daa9e81aac6308bb", func := "example.com/visarion/visarion/zzlaws_internal_simulation_b2.FnLaterAssociative", spec := "fnLaterAssociative", apart := false }
def FnLaterAssociativeSaid : Prop := fnLaterAssociativeRow.holds Try.pinned (OpenSpec.ofChange fnLaterAssociativeSpec)

/-- ITS FALSE NEIGHBOUR: 'it returns false'. Refute it at one input. -/
def fnLaterAssociativeWrong : ChangeSpec := { name := "fnLaterAssociative", fn := fun _ => fun
  | [d1, d2, d3, d4, d5, d6] => { results := [.lit (.bool false)], args := [d1, d2, d3, d4, d5, d6] }
  | _ => none }
def FnLaterAssociativeWrongFalsely : Prop := fnLaterAssociativeRow.holds Try.pinned (OpenSpec.ofChange fnLaterAssociativeWrong)

/-- 'zzlaws_internal_simulation_b2.FnLaterIsMaximum': WHATEVER THE INPUT: true; the input reads as it did. -/
def fnLaterIsMaximumSpec : ChangeSpec := { name := "fnLaterIsMaximum", fn := fun _ => fun
  | [d1, d2, d3, d4] => { results := [.lit (.bool true)], args := [d1, d2, d3, d4] }
  | _ => none }
def fnLaterIsMaximumRow : OpenClaim := { program := "qxb6003566a", sum := "8ab40555d9c9540cad7c25d32f5d77aa5d3c7bb644dce1e9daa9e81aac6308bb", func := "example.com/visarion/visarion/zzlaws_internal_simulation_b2.FnLaterIsMaximum", spec := "fnLaterIsMaximum", apart := false }
def FnLaterIsMaximumSaid : Prop := fnLaterIsMaximumRow.holds Try.pinned (OpenSpec.ofChange fnLaterIsMaximumSpec)

/-- ITS FALSE NEIGHBOUR: 'it returns false'. Refute it at one input. -/
def fnLaterIsMaximumWrong : ChangeSpec := { name := "fnLaterIsMaximum", fn := fun _ => fun
  | [d1, d2, d3, d4] => { results := [.lit (.bool false)], args := [d1, d2, d3, d4] }
  | _ => none }
def FnLaterIsMaximumWrongFalsely : Prop := fnLaterIsMaximumRow.holds Try.pinned (OpenSpec.ofChange fnLaterIsMaximumWrong)

/-- 'zzlaws_internal_simulation_b2.FnTickIsLaterOfSuccessorAndClock': WHATEVER THE INPUT: true; the input reads as it did. -/
def fnTickIsLaterOfSuccessorAndClockSpec : ChangeSpec := { name := "fnTickIsLaterOfSuccessorAndClock", fn := fun _ => fun
  | [d1, d2, d3] => { results := [.lit (.bool true)], args := [d1, d2, d3] }
  | _ => none }
def fnTickIsLaterOfSuccessorAndClockRow : OpenClaim := { program := "qxb6003566a", sum := "8ab40555d9c9540cad7c25d32f5d77aa5d3c7bb644dce1e9daa9e81aac6308bb", func := "example.com/visarion/visarion/zzlaws_internal_simulation_b2.FnTickIsLaterOfSuccessorAndClock", spec := "fnTickIsLaterOfSuccessorAndClock", apart := false }
def FnTickIsLaterOfSuccessorAndClockSaid : Prop := fnTickIsLaterOfSuccessorAndClockRow.holds Try.pinned (OpenSpec.ofChange fnTickIsLaterOfSuccessorAndClockSpec)

/-- ITS FALSE NEIGHBOUR: 'it returns false'. Refute it at one input. -/
def fnTickIsLaterOfSuccessorAndClockWrong : ChangeSpec := { name := "fnTickIsLaterOfSuccessorAndClock", fn := fun _ => fun
  | [d1, d2, d3] => { results := [.lit (.bool false)], args := [d1, d2, d3] }
  | _ => none }
def FnTickIsLaterOfSuccessorAndClockWrongFalsely : Prop := fnTickIsLaterOfSuccessorAndClockRow.holds Try.pinned (OpenSpec.ofChange fnTickIsLaterOfSuccessorAndClockWrong)

/-- 'zzlaws_internal_simulation_b2.FnTickScriptAdvances': WHATEVER THE INPUT: true; the input reads as it did. -/
def fnTickScriptAdvancesSpec : ChangeSpec := { name := "fnTickScriptAdvances", fn := fun _ => fun
  | [d1, d2, d3] => { results := [.lit (.bool true)], args := [d1, d2, d3] }
  | _ => none }
def fnTickScriptAdvancesRow : OpenClaim := { program := "qxb6003566a", sum := "8ab40555d9c9540cad7c25d32f5d77aa5d3c7bb644dce1e9daa9e81aac6308bb", func := "example.com/visarion/visarion/zzlaws_internal_simulation_b2.FnTickScriptAdvances", spec := "fnTickScriptAdvances", apart := false }
def FnTickScriptAdvancesSaid : Prop := fnTickScriptAdvancesRow.holds Try.pinned (OpenSpec.ofChange fnTickScriptAdvancesSpec)

/-- ITS FALSE NEIGHBOUR: 'it returns false'. Refute it at one input. -/
def fnTickScriptAdvancesWrong : ChangeSpec := { name := "fnTickScriptAdvances", fn := fun _ => fun
  | [d1, d2, d3] => { results := [.lit (.bool false)], args := [d1, d2, d3] }
  | _ => none }
def FnTickScriptAdvancesWrongFalsely : Prop := fnTickScriptAdvancesRow.holds Try.pinned (OpenSpec.ofChange fnTickScriptAdvancesWrong)

end Rows
end Go.Proofs.Qxb6003566a
