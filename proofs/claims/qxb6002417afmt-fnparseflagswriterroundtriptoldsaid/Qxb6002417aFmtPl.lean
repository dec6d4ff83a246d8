/-
  Seat b6002417aF: the plain law: what the law writes, parseFlags reads back; no Go in sight (192 cases by the kernel).
-/
import Derived.Test.Qxb6002417aFmtZz
namespace Go.Proofs.Qxb6002417aFmt
open Go.RowKit

def kAt (rot j : Nat) : Nat := (rot + j) % 4
def has (mask k : Nat) : Bool := mask / 2 ^ k % 2 == 1
def lettersAt (mask rot : Nat) : Nat → List UInt8
  | 0 => []
  | j + 1 => lettersAt mask rot j ++ (if has mask (kAt rot j) then [letter (kAt rot j)] else [])
def wantAt (acc : Int) (mask rot : Nat) : Nat → Int
  | 0 => acc
  | j + 1 => if has mask (kAt rot j) then bits BinOp.or IntKind.i64 (wantAt acc mask rot j) (lflag (kAt rot j)) else wantAt acc mask rot j
def firstAt (mask rot : Nat) : Nat → Int
  | 0 => -1
  | j + 1 => if has mask (kAt rot j) then (if firstAt mask rot j < 0 then (kAt rot j : Int) else firstAt mask rot j) else firstAt mask rot j

theorem law_good : ∀ a, a < 3 → ∀ mask, mask < 16 → ∀ rot, rot < 4 →
    rest (accOf a) (lettersAt mask rot 4) false false false false = some (wantAt (accOf a : Int) mask rot 4) := by decide +kernel
theorem law_z : ∀ a, a < 3 → ∀ mask, mask < 16 → ∀ rot, rot < 4 →
    rest (accOf a) (lettersAt mask rot 4 ++ [122]) false false false false = none := by decide +kernel
theorem law_word : ∀ a, a < 3 → ∀ mask, mask < 16 → ∀ rot, rot < 4 →
    rest (accOf a) (lettersAt mask rot 4 ++ (word a).take 1) false false false false = none := by decide +kernel
theorem law_first : ∀ a, a < 3 → ∀ mask, mask < 16 → ∀ rot, rot < 4 → 0 ≤ firstAt mask rot 4 →
    rest (accOf a) (lettersAt mask rot 4 ++ [letter (firstAt mask rot 4).toNat]) false false false false = none := by decide +kernel
theorem first_bd : ∀ mask, mask < 16 → ∀ rot, rot < 4 → ∀ j, j < 5 → -1 ≤ firstAt mask rot j ∧ firstAt mask rot j < 4 := by decide +kernel
theorem letters_bd : ∀ mask, mask < 16 → ∀ rot, rot < 4 → ∀ j, j < 5 → (lettersAt mask rot j).length ≤ 4 := by decide +kernel
theorem letters_ascii : ∀ mask, mask < 16 → ∀ rot, rot < 4 → ∀ b ∈ lettersAt mask rot 4, b.toNat < 128 := by decide +kernel
theorem letters_now : ∀ mask, mask < 16 → ∀ rot, rot < 4 → (lettersAt mask rot 4).take 1 ≠ [119] := by decide +kernel
end Go.Proofs.Qxb6002417aFmt
