/-
  DERIVED. GIVEN WITH THE SEED: THE CARDS: each row of Qxb6605158aDoorRows.lean that lists a variable, with what it lists TIED to the program's text (the seventh form; the later family's looks); each row that meets fmt, with fmt's text TOLD by the authors' own Lean function (tested against real Go, not proved from fmt's source: count such statements apart). THE CARD IS WHAT COUNTS. Prove the row's statement (the work); the ties are given (Qxb6605158aDoorTie.lean); close each card by the builder's one call (the guide's Derived/Test/ToyasCard.lean, 'card_holds'). Laid BY PROGRAM, IN A SANDBOX (cutbox-door.mjs). By AI agents, Wed Nov 11 2026. No macro, syntax, notation, axiom, sorry.
-/
import Derived.Test.Qxb6605158aDoorRows
import GoSem.ClaimSeven
namespace Go.Proofs.Qxb6605158aDoor
namespace Rows

/-- THE TIED CARD OF 'zzlaws_internal_quote_b1.FnGroupedMatchesThousandsModel'. -/
def fnGroupedMatchesThousandsModelCard : Claim7 := { stood := { row := fnGroupedMatchesThousandsModelRow, standIns := [], harness := (true, "25a965198bb5fb201495977df38188fa17584c0d109f854834325d6c7a8a46d0"), looks := false }, kinds := [], alts := [], laidByText := true, laidKinds := [.data, .data, .data], laidTests := true, laidLooks := .later }
def FnGroupedMatchesThousandsModelCardSaid : Prop := Claim7.holds Tryd.pinned (.plain (OpenSpec.ofChange fnGroupedMatchesThousandsModelSpec)) fnGroupedMatchesThousandsModelCard

/-- THE TIED CARD OF 'zzlaws_internal_quote_b1.FnGroupedDropsToDecimal'. -/
def fnGroupedDropsToDecimalCard : Claim7 := { stood := { row := fnGroupedDropsToDecimalRow, standIns := [], harness := (true, "25a965198bb5fb201495977df38188fa17584c0d109f854834325d6c7a8a46d0"), looks := false }, kinds := [], alts := [], laidByText := true, laidKinds := [.data, .data, .data], laidTests := true, laidLooks := .later }
def FnGroupedDropsToDecimalCardSaid : Prop := Claim7.holds Tryd.pinned (.plain (OpenSpec.ofChange fnGroupedDropsToDecimalSpec)) fnGroupedDropsToDecimalCard
end Rows
end Go.Proofs.Qxb6605158aDoor
