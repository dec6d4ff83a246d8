/-
  Seat b6605158aD: what the listed tables give the walks; the witness's heap.
-/
import Derived.Test.Qxb6605158aDoorRows
import Derived.Test.Qxb6605158aDoorTie
import Derived.Test.Qxb6605158aDoorCards
import Derived.ProofKit
import Derived.LaidMore
import Derived.OpenShut
import Derived.Stop.Joined
import Derived.Stop.LaidErr
import Derived.ChangeOld
import Derived.Below
import Derived.Lib.LaidTab
import Derived.Lib.ItoaNum
namespace Go.Proofs.Qxb6605158aDoor.Fr
open Go.ChangeShapes Go.WideShapes Go.ChangeAt Go.RowKit

/-- the rows' list, by name -/
abbrev laid3 : List (String × DataW Unit) := Rows.fnGroupedMatchesThousandsModelRow.laid

theorem own : ownKnob Tryd.prog.godebug = none := by kernel_rfl
theorem gPow : Tryd.prog.globalNamed "internal/strconv.uint64pow10" = some 0 := by kernel_rfl
theorem tPow : (Tryd.prog.globals[0]?).map (·.type) = some 54 := by kernel_rfl

theorem tab_of_laid {W : World} (h : laidMetH Tryd.prog laid3 W) : Lib.TabIs Tryd.prog W "internal/strconv.uint64pow10" .u64 Lib.pow10Tab := by
  rw [MakeChecks.laidMetH_plain _ _ _ (by kernel_rfl)] at h
  have h2 := laidMet.tail (laidMet.tail h)
  have e : (Rows.laid_internal_strconv_uint64pow10 : DataW Unit) = Lib.tabData .u64 Lib.pow10Tab := by rfl
  have h3 : laidMet Tryd.prog [("internal/strconv.uint64pow10", Lib.tabData .u64 Lib.pow10Tab)] W := by rw [← e]; exact h2
  exact Lib.tabIs_of_head gPow tPow Tryd.underlying54 Tryd.underlying24 (by kernel_rfl) (by kernel_rfl) h3

/-- The door's own heap meets the condition: three closed facts. -/
theorem door_met (os : Os) (args : Array Value) : laidMetH Tryd.prog laid3 ((World.doorLaid Tryd.prog 24 os).forCall (fun _ _ => 0) ⟨#[], args, []⟩).memory :=
  laidMetH_of_parts3 (fuel := 8) (laidMet_of_run' 8 (by kernel_rfl) (by kernel_rfl)) (by kernel_rfl) (by kernel_rfl)
end Go.Proofs.Qxb6605158aDoor.Fr
