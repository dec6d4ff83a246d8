/-
  No cell of these rows narrows 'for every input' (looked for: loops, veiled, ifaces, maps, wideKeys, modest, calm, conditions, laid).
  DERIVED. THE GIVEN ROWS OF THIS SEAT. 3 by the template 'for every input the law returns true; each argument reads behind the call as it read before'; 0 by the template 'total and deterministic' (their statements: Qxb6605505aTotals.lean).
  GIVEN WITH THE SEED: the statements are not yours to turn. If you find one false, say at which input.
  Laid BY PROGRAM, IN A SANDBOX (cutbox-rows.mjs): the forced cells as the released guide's own fill.sh prints them over the translation 78e537b274f3c2f4… (all of the seat's roots in one cut). By AI agents, Wed Nov 11 2026. No macro, syntax, notation, axiom, sorry.
-/
import Derived.Test.Qxb6605505aChecked
import GoSem.Claim
import GoSem.ClaimJoined
import GoSem.ClaimMapViews
import Derived.JoinedTies
import Derived.KernelRfl
namespace Go.Proofs.Qxb6605505a
/- THE CELL 'sum', in the pinned program and in every row, IS THE sha256 OF THE DUMP (.gsa) THAT Qxb6605505aProg.lean LOADS. Nothing in Lean hashes anything: it is a label: what it is worth is what the hold of that sum in a sandbox is worth. -/
noncomputable def Try.pinned : Pinned := { name := "qxb6605505a", sum := "78e537b274f3c2f45669f8779d8182eb3523f849c81c935d93265dbab0121bb3", checked := Try.checked }
namespace Rows
def none {H : Type} : Left H := { results := [], args := [] }

/-- 'zzlaws_internal_padding_b1.FnPadExact': WHATEVER THE INPUT: true; the input reads as it did. -/
def fnPadExactSpec : ChangeSpec := { name := "fnPadExact", fn := fun _ => fun
  | [d1, d2] => { results := [.lit (.bool true)], args := [d1, d2] }
  | _ => none }
def fnPadExactRow : OpenClaim := { program := "qxb6605505a", sum := "78e537b274f3c2f45669f8779d8182eb3523f849c81c935d93265dbab0121bb3", func := "example.com/sealscript/sealscript/zzlaws_internal_padding_b1.FnPadExact", spec := "fnPadExact", apart := false }
def FnPadExactSaid : Prop := fnPadExactRow.holds Try.pinned (OpenSpec.ofChange fnPadExactSpec)

/-- ITS FALSE NEIGHBOUR: 'it returns false'. Refute it at one input. -/
def fnPadExactWrong : ChangeSpec := { name := "fnPadExact", fn := fun _ => fun
  | [d1, d2] => { results := [.lit (.bool false)], args := [d1, d2] }
  | _ => none }
def FnPadExactWrongFalsely : Prop := fnPadExactRow.holds Try.pinned (OpenSpec.ofChange fnPadExactWrong)

/-- 'zzlaws_internal_padding_b1.FnPadStripsBack': WHATEVER THE INPUT: true; the input reads as it did. -/
def fnPadStripsBackSpec : ChangeSpec := { name := "fnPadStripsBack", fn := fun _ => fun
  | [d1, d2] => { results := [.lit (.bool true)], args := [d1, d2] }
  | _ => none }
def fnPadStripsBackRow : OpenClaim := { program := "qxb6605505a", sum := "78e537b274f3c2f45669f8779d8182eb3523f849c81c935d93265dbab0121bb3", func := "example.com/sealscript/sealscript/zzlaws_internal_padding_b1.FnPadStripsBack", spec := "fnPadStripsBack", apart := false }
def FnPadStripsBackSaid : Prop := fnPadStripsBackRow.holds Try.pinned (OpenSpec.ofChange fnPadStripsBackSpec)

/-- ITS FALSE NEIGHBOUR: 'it returns false'. Refute it at one input. -/
def fnPadStripsBackWrong : ChangeSpec := { name := "fnPadStripsBack", fn := fun _ => fun
  | [d1, d2] => { results := [.lit (.bool false)], args := [d1, d2] }
  | _ => none }
def FnPadStripsBackWrongFalsely : Prop := fnPadStripsBackRow.holds Try.pinned (OpenSpec.ofChange fnPadStripsBackWrong)

/-- 'zzlaws_internal_padding_b1.FnPadTwiceAddsFullBlock': WHATEVER THE INPUT: true; the input reads as it did. -/
def fnPadTwiceAddsFullBlockSpec : ChangeSpec := { name := "fnPadTwiceAddsFullBlock", fn := fun _ => fun
  | [d1, d2] => { results := [.lit (.bool true)], args := [d1, d2] }
  | _ => none }
def fnPadTwiceAddsFullBlockRow : OpenClaim := { program := "qxb6605505a", sum := "78e537b274f3c2f45669f8779d8182eb3523f849c81c935d93265dbab0121bb3", func := "example.com/sealscript/sealscript/zzlaws_internal_padding_b1.FnPadTwiceAddsFullBlock", spec := "fnPadTwiceAddsFullBlock", apart := false }
def FnPadTwiceAddsFullBlockSaid : Prop := fnPadTwiceAddsFullBlockRow.holds Try.pinned (OpenSpec.ofChange fnPadTwiceAddsFullBlockSpec)

/-- ITS FALSE NEIGHBOUR: 'it returns false'. Refute it at one input. -/
def fnPadTwiceAddsFullBlockWrong : ChangeSpec := { name := "fnPadTwiceAddsFullBlock", fn := fun _ => fun
  | [d1, d2] => { results := [.lit (.bool false)], args := [d1, d2] }
  | _ => none }
def FnPadTwiceAddsFullBlockWrongFalsely : Prop := fnPadTwiceAddsFullBlockRow.holds Try.pinned (OpenSpec.ofChange fnPadTwiceAddsFullBlockWrong)

end Rows
end Go.Proofs.Qxb6605505a
