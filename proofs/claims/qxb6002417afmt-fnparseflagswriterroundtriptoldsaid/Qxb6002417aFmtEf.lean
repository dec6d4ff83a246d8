/-
  Seat b6002417aF: fmt.Errorf with one rune under the two formats of parseFlags: an error that is not nil, whatever text fmt gives.
-/
import Derived.Test.Qxb6002417aFmtFc
import Derived.WalkKit
import Derived.Below
namespace Go.Proofs.Qxb6002417aFmt
open Go.RowKit Go.Extern.Stop Go.Stop Go.Extern

set_option maxHeartbeats 400000 in
theorem errorf_unknown (F : Interp) (b : Nat) (x : Int) (w : World) (hF : F.answers w.tape) (hc : w.cell? ⟨b, 0, none⟩ = some (.iface 21 (.int .i32 x))) :
    Calls Tryf.prog 11 #[.string ⟨#[117, 110, 107, 110, 111, 119, 110, 32, 102, 108, 97, 103, 32, 37, 113]⟩, .slice (some ⟨b, 0, none⟩) 1 1] w fun e w' => (∃ u p, e = .returned (.iface u p)) ∧ Below w.heap.size w w' := by
  unfold Interp.answers at hF
  go_enter Tryf.func11, Tryf.ntmps11
  go_wp2
  go_ret
  exact ⟨⟨_, _, rfl⟩, ((Below.refl _ _).alloc (Nat.le_refl _) _).drew⟩

set_option maxHeartbeats 400000 in
theorem errorf_twice (F : Interp) (b : Nat) (x : Int) (w : World) (hF : F.answers w.tape) (hc : w.cell? ⟨b, 0, none⟩ = some (.iface 21 (.int .i32 x))) :
    Calls Tryf.prog 11 #[.string ⟨#[102, 108, 97, 103, 32, 37, 113, 32, 103, 105, 118, 101, 110, 32, 116, 119, 105, 99, 101]⟩, .slice (some ⟨b, 0, none⟩) 1 1] w fun e w' => (∃ u p, e = .returned (.iface u p)) ∧ Below w.heap.size w w' := by
  unfold Interp.answers at hF
  go_enter Tryf.func11, Tryf.ntmps11
  go_wp2
  go_ret
  exact ⟨⟨_, _, rfl⟩, ((Below.refl _ _).alloc (Nat.le_refl _) _).drew⟩
end Go.Proofs.Qxb6002417aFmt
