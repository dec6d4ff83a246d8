/-
  DERIVED. GIVEN WITH THE SEED: THE CARDS: each row of Qxb6002417aFmtRows.lean that lists a variable, with what it lists TIED to the program's text (the seventh form; the later family's looks); each row that meets fmt, with fmt's text TOLD by the authors' own Lean function (tested against real Go, not proved from fmt's source: count such statements apart). THE CARD IS WHAT COUNTS. Prove the row's statement (the work); the ties are given (Qxb6002417aFmtTie.lean); close each card by the builder's one call (the guide's Derived/Test/ToyasCard.lean, 'card_holds'). Laid BY PROGRAM, IN A SANDBOX (cutbox-door.mjs). By AI agents, Wed Nov 11 2026. No macro, syntax, notation, axiom, sorry.
-/
import Derived.Test.Qxb6002417aFmtRows
import GoSem.ClaimSeven
namespace Go.Proofs.Qxb6002417aFmt
namespace Rows

/-- THE TOLD CARD OF 'zzlaws_script_g1.FnParseFlagsWriterRoundTrip'. -/
def fnParseFlagsWriterRoundTripCard : Claim7 := { stood := { row := fnParseFlagsWriterRoundTripRow, standIns := [], harness := (true, "1dc46b38908a6081b2def979e1b2bf75981810a05ebe1a5fc2f88b8f096a78e5"), looks := false }, told := true, goes := false }
def FnParseFlagsWriterRoundTripToldSaid : Prop := Claim7.holds Tryf.pinned (.plain (OpenSpec.ofChange fnParseFlagsWriterRoundTripSpec)) fnParseFlagsWriterRoundTripCard
/-- ITS FALSE NEIGHBOUR. Refute it at one input. -/
def FnParseFlagsWriterRoundTripToldWrongFalsely : Prop := Claim7.holds Tryf.pinned (.plain (OpenSpec.ofChange fnParseFlagsWriterRoundTripWrong)) fnParseFlagsWriterRoundTripCard
end Rows
end Go.Proofs.Qxb6002417aFmt
