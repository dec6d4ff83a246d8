/-
  No cell of these rows narrows 'for every input' (looked for: loops, veiled, ifaces, maps, wideKeys, modest, calm, conditions, laid).
  DERIVED. THE GIVEN ROWS OF THIS SEAT. 2 by the template 'for every input the law returns true; each argument reads behind the call as it read before'; 0 by the template 'total and deterministic' (their statements: Qxb6605351aTotals.lean).
  GIVEN WITH THE SEED: the statements are not yours to turn. If you find one false, say at which input.
  Laid BY PROGRAM, IN A SANDBOX (cutbox-rows.mjs): the forced cells as the released guide's own fill.sh prints them over the translation 8f9a02afa71b90e7… (all of the seat's roots in one cut). By AI agents, Wed Nov 11 2026. No macro, syntax, notation, axiom, sorry.
-/
import Derived.Test.Qxb6605351aChecked
import GoSem.Claim
import GoSem.ClaimJoined
import GoSem.ClaimMapViews
import Derived.JoinedTies
import Derived.KernelRfl
namespace Go.Proofs.Qxb6605351a
/- THE CELL 'sum', in the pinned program and in every row, IS THE sha256 OF THE DUMP (.gsa) THAT Qxb6605351aProg.lean LOADS. Nothing in Lean hashes anything: it is a label: what it is worth is what the hold of that sum in a sandbox is worth. -/
noncomputable def Try.pinned : Pinned := { name := "qxb6605351a", sum := "8f9a02afa71b90e7a06fa28fce5b5e3e8f9e59e551d43f8548a36b04b905ba77", checked := Try.checked }
namespace Rows
def none {H : Type} : Left H := { results := [], args := [] }

/-- 'zzlaws_internal_durable_b1.FnTempTargetRoundTrip': WHATEVER THE INPUT: true; the input reads as it did. -/
def fnTempTargetRoundTripSpec : ChangeSpec := { name := "fnTempTargetRoundTrip", fn := fun _ => fun
  | [d1, d2] => { results := [.lit (.bool true)], args := [d1, d2] }
  | _ => none }
def fnTempTargetRoundTripRow : OpenClaim := { program := "qxb6605351a", sum := "8f9a02afa71b90e7a06fa28fce5b5e3e8f9e59e551d43f8548a36b04b905ba77", func := "example.com/attestwright/attestwright/zzlaws_internal_durable_b1.FnTempTargetRoundTrip", spec := "fnTempTargetRoundTrip", apart := false }
def FnTempTargetRoundTripSaid : Prop := fnTempTargetRoundTripRow.holds Try.pinned (OpenSpec.ofChange fnTempTargetRoundTripSpec)

/-- ITS FALSE NEIGHBOUR: 'it returns false'. Refute it at one input. -/
def fnTempTargetRoundTripWrong : ChangeSpec := { name := "fnTempTargetRoundTrip", fn := fun _ => fun
  | [d1, d2] => { results := [.lit (.bool false)], args := [d1, d2] }
  | _ => none }
def FnTempTargetRoundTripWrongFalsely : Prop := fnTempTargetRoundTripRow.holds Try.pinned (OpenSpec.ofChange fnTempTargetRoundTripWrong)

/-- 'zzlaws_internal_durable_b1.FnTempTargetVisibleRefusedAndWrapped': WHATEVER THE INPUT: true; the input reads as it did. -/
def fnTempTargetVisibleRefusedAndWrappedSpec : ChangeSpec := { name := "fnTempTargetVisibleRefusedAndWrapped", fn := fun _ => fun
  | [d] => { results := [.lit (.bool true)], args := [d] }
  | _ => none }
def fnTempTargetVisibleRefusedAndWrappedRow : OpenClaim := { program := "qxb6605351a", sum := "8f9a02afa71b90e7a06fa28fce5b5e3e8f9e59e551d43f8548a36b04b905ba77", func := "example.com/attestwright/attestwright/zzlaws_internal_durable_b1.FnTempTargetVisibleRefusedAndWrapped", spec := "fnTempTargetVisibleRefusedAndWrapped", apart := false }
def FnTempTargetVisibleRefusedAndWrappedSaid : Prop := fnTempTargetVisibleRefusedAndWrappedRow.holds Try.pinned (OpenSpec.ofChange fnTempTargetVisibleRefusedAndWrappedSpec)

/-- ITS FALSE NEIGHBOUR: 'it returns false'. Refute it at one input. -/
def fnTempTargetVisibleRefusedAndWrappedWrong : ChangeSpec := { name := "fnTempTargetVisibleRefusedAndWrapped", fn := fun _ => fun
  | [d] => { results := [.lit (.bool false)], args := [d] }
  | _ => none }
def FnTempTargetVisibleRefusedAndWrappedWrongFalsely : Prop := fnTempTargetVisibleRefusedAndWrappedRow.holds Try.pinned (OpenSpec.ofChange fnTempTargetVisibleRefusedAndWrappedWrong)

end Rows
end Go.Proofs.Qxb6605351a
