/-
  Plain law of seat b6605158aD: decimal digits grouped by threes; no Go in sight.
-/
import Derived.Lib.ItoaNum
import Derived.Lib.ItoaMem
import Derived.Lib.ItoaLen
namespace Go.Proofs.Qxb6605158aDoor.Plain
open Go

/-- Behind the first byte: a comma ahead of each byte from which on the rest's length is a multiple of three. -/
def grp : List UInt8 → List UInt8
  | [] => []
  | c :: t => (if (t.length + 1) % 3 = 0 then [44, c] else [c]) ++ grp t
/-- What 'grouped' writes of the digits. -/
def grouped : List UInt8 → List UInt8
  | [] => []
  | c :: t => c :: grp t

theorem grp_length : ∀ l, (grp l).length ≤ 2 * l.length
  | [] => by simp [grp]
  | c :: t => by
    have := grp_length t
    unfold grp
    split <;> simp <;> omega

theorem grouped_length (l : List UInt8) : (grouped l).length ≤ 2 * l.length := by
  cases l with
  | nil => simp [grouped]
  | cons c t => have := grp_length t; simp [grouped]; omega

theorem grp_three (x y z : UInt8) : ∀ a, grp (a ++ [x, y, z]) = grp a ++ [44, x, y, z]
  | [] => by simp [grp]
  | c :: t => by
    have h := grp_three x y z t
    simp only [List.cons_append, grp, h]
    have e : ((t ++ [x, y, z]).length + 1) % 3 = (t.length + 1) % 3 := by simp; omega
    rw [e, List.append_assoc]

theorem grouped_three (x y z : UInt8) (a : List UInt8) (h : a ≠ []) : grouped (a ++ [x, y, z]) = grouped a ++ [44, x, y, z] := by
  cases a with
  | nil => exact absurd rfl h
  | cons c t => simp [grouped, grp_three]

def dch (n : Nat) : UInt8 := UInt8.ofNat (48 + n)

/-- zzAppendPlain: g without leading zeros. -/
def plain (g : Nat) : List UInt8 :=
  (if 100 ≤ g then [dch (g / 100)] else []) ++ (if 10 ≤ g then [dch (g / 10 % 10)] else []) ++ [dch (g % 10)]
def three (g : Nat) : List UInt8 := [44, dch (g / 100), dch (g / 10 % 10), dch (g % 10)]

theorem dec_small (u : Nat) (h : u < 10) : Lib.decDigits u = [dch u] := Lib.decDigits_one h
theorem dec_big (u : Nat) (h : 10 ≤ u) : Lib.decDigits u = Lib.decDigits (u / 10) ++ [dch (u % 10)] := by
  rw [Lib.decDigits, dif_neg (by omega)]; rfl
theorem dec_ne (u : Nat) : Lib.decDigits u ≠ [] := by
  by_cases h : u < 10
  · rw [dec_small u h]; simp
  · rw [dec_big u (by omega)]; simp

theorem grouped_plain (g : Nat) (h : g < 1000) : grouped (Lib.decDigits g) = plain g := by
  by_cases h1 : g < 10
  · rw [dec_small g h1]
    simp [grouped, grp, plain, show ¬ 100 ≤ g by omega, show ¬ 10 ≤ g by omega, Nat.mod_eq_of_lt h1]
  · by_cases h2 : g < 100
    · rw [dec_big g (by omega), dec_small (g / 10) (by omega)]
      simp [grouped, grp, plain, show ¬ 100 ≤ g by omega, show 10 ≤ g by omega, Nat.mod_eq_of_lt (show g / 10 < 10 by omega)]
    · rw [dec_big g (by omega), dec_big (g / 10) (by omega), dec_small (g / 10 / 10) (by omega)]
      simp [grouped, grp, plain, show 100 ≤ g by omega, show 10 ≤ g by omega, show g / 10 / 10 = g / 100 by omega]

theorem grouped_step (u : Nat) (h : 1000 ≤ u) : grouped (Lib.decDigits u) = grouped (Lib.decDigits (u / 1000)) ++ three (u % 1000) := by
  rw [dec_big u (by omega), dec_big (u / 10) (by omega), dec_big (u / 10 / 10) (by omega)]
  rw [List.append_assoc, List.append_assoc]
  simp only [List.cons_append, List.nil_append]
  rw [show u / 10 / 10 / 10 = u / 1000 by omega, grouped_three _ _ _ _ (dec_ne _)]
  unfold three
  rw [show u % 1000 / 100 = u / 10 / 10 % 10 by omega, show u % 1000 / 10 % 10 = u / 10 % 10 by omega, show u % 1000 % 10 = u % 10 by omega]

/-- the digits' bytes -/
theorem dec_digit (u : Nat) : ∀ c ∈ Lib.decDigits u, 48 ≤ c.toNat ∧ c.toNat ≤ 57 := by
  induction u using Nat.strongRecOn with
  | _ u ih =>
    by_cases h : u < 10
    · rw [dec_small u h]
      intro c hc
      simp at hc
      subst hc
      unfold dch
      rw [UInt8.toNat_ofNat']
      omega
    · rw [dec_big u (by omega)]
      intro c hc
      rw [List.mem_append] at hc
      rcases hc with hc | hc
      · exact ih _ (by omega) c hc
      · simp at hc
        subst hc
        unfold dch
        rw [UInt8.toNat_ofNat']
        omega

theorem itoa_byte (n : Int) : ∀ c ∈ Lib.itoa n, c.toNat = 45 ∨ (48 ≤ c.toNat ∧ c.toNat ≤ 57) := by
  unfold Lib.itoa
  intro c hc
  split at hc
  · rcases List.mem_cons.1 hc with rfl | hc
    · left; rfl
    · right; exact dec_digit _ c hc
  · right; exact dec_digit _ c hc
end Go.Proofs.Qxb6605158aDoor.Plain
