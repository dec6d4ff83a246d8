/-
  No cell of these rows narrows 'for every input' (looked for: loops, veiled, ifaces, maps, wideKeys, modest, calm, conditions, laid).
  DERIVED. THE GIVEN ROWS OF THIS SEAT. 1 by the template 'for every input the law returns true; each argument reads behind the call as it read before'; 0 by the template 'total and deterministic' (their statements: Qxb6002417aFmtTotals.lean).
  GIVEN WITH THE SEED: the statements are not yours to turn. If you find one false, say at which input.
  Laid BY PROGRAM, IN A SANDBOX (cutbox-rows.mjs): the forced cells as the released guide's own fill.sh prints them over the translation 298c467d21af4daa… (all of the seat's roots in one cut). By AI agents, Wed Nov 11 2026. No macro, syntax, notation, axiom, sorry.
-/
import Derived.Test.Qxb6002417aFmtChecked
import GoSem.Claim
import GoSem.ClaimJoined
import GoSem.ClaimMapViews
import Derived.JoinedTies
import Derived.KernelRfl
namespace Go.Proofs.Qxb6002417aFmt
/- THE CELL 'sum', in the pinned program and in every row, IS THE sha256 OF THE DUMP (.gsa) THAT Qxb6002417aFmtProg.lean LOADS. Nothing in Lean hashes anything: it is a label: what it is worth is what the hold of that sum in a sandbox is worth. -/
noncomputable def Tryf.pinned : Pinned := { name := "qxb6002417afmt", sum := "298c467d21af4daa1d7b7a2f982354355d4ae20b94c4251499b75c7ffdc48418", checked := Tryf.checked }
namespace Rows
def none {H : Type} : Left H := { results := [], args := [] }

/-- 'zzlaws_script_g1.FnParseFlagsWriterRoundTrip': WHATEVER THE INPUT: true; the input reads as it did. -/
def fnParseFlagsWriterRoundTripSpec : ChangeSpec := { name := "fnParseFlagsWriterRoundTrip", fn := fun _ => fun
  | [d1, d2, d3] => { results := [.lit (.bool true)], args := [d1, d2, d3] }
  | _ => none }
def fnParseFlagsWriterRoundTripRow : OpenClaim := { program := "qxb6002417afmt", sum := "298c467d21af4daa1d7b7a2f982354355d4ae20b94c4251499b75c7ffdc48418", func := "example.com/underglass/underglass/zzlaws_script_g1.FnParseFlagsWriterRoundTrip", spec := "fnParseFlagsWriterRoundTrip", stops := ["fmt.errorf"], inPlace := ["fmt.errorf"], apart := false }
/-- NO THEOREM (fmt's text is open here; it may be false): for the released tool's asking of the row's closed facts alone. THE STATEMENT IS 'FnParseFlagsWriterRoundTripToldSaid' (Qxb6002417aFmtCards.lean). -/
def FnParseFlagsWriterRoundTripFormAsk : Prop := fnParseFlagsWriterRoundTripRow.holds Tryf.pinned (OpenSpec.ofChange fnParseFlagsWriterRoundTripSpec)

/-- ITS FALSE NEIGHBOUR: 'it returns false'. Refute it at one input. -/
def fnParseFlagsWriterRoundTripWrong : ChangeSpec := { name := "fnParseFlagsWriterRoundTrip", fn := fun _ => fun
  | [d1, d2, d3] => { results := [.lit (.bool false)], args := [d1, d2, d3] }
  | _ => none }
def FnParseFlagsWriterRoundTripWrongFormAsk : Prop := fnParseFlagsWriterRoundTripRow.holds Tryf.pinned (OpenSpec.ofChange fnParseFlagsWriterRoundTripWrong)

end Rows
end Go.Proofs.Qxb6002417aFmt
