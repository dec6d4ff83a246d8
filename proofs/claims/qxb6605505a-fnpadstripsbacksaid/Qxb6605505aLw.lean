/-
  Seat b6605505a: what the three laws share: the bound on length, the argument as bytes, the copies read again.
-/
import Derived.Test.Qxb6605505aPd
import Derived.Deep.QuietTactic
import Derived.BigQuiet
import Derived.OpenShut
namespace Go.Proofs.Qxb6605505a
open Go.RowKit

theorem src_of {w : World} {a : Option Addr} {len cap : Nat} {zs : List Int}
    (h : (a = none ∧ len = 0 ∧ cap = 0 ∧ zs = []) ∨ ∃ x, a = some x ∧ len ≤ cap ∧ cap ≤ maxLen ∧ zs.length = cap ∧ (∀ i, i < zs.length → w.cell? (x.add i) = some (.int .u8 (zs.getD i 0))) ∧ ∀ n ∈ zs, (Lit.int .u8 n).wf = true) :
    Src w (.slice a len cap) (zs.take len) ∧ (zs.take len).length = len ∧ len ≤ maxLen := by
  rcases h with ⟨rfl, rfl, rfl, rfl⟩ | ⟨x, rfl, h1, h2, h3, h4, _⟩
  · exact ⟨Or.inl ⟨rfl, rfl⟩, rfl, by decide⟩
  · have hl : (zs.take len).length = len := by simp; omega
    refine ⟨?_, hl, by omega⟩
    by_cases h0 : len = 0
    · subst h0
      exact Or.inr (Or.inl ⟨x, cap, rfl, by simp⟩)
    · obtain ⟨b, off, rfl, hc⟩ := ints_at h4 (by omega)
      refine Or.inr (Or.inr ⟨b, off, cap, by rw [hl], World.block_lt_of_cell? w _ (hc 0 (by omega)), fun j hj => ?_⟩)
      rw [hl] at hj
      rw [hc j (by omega)]
      simp [List.getD, hj]

theorem Src.later {w w' : World} {v : Value} {l : List Int} (h : Src w v l) (hb : Below w.heap.size w w') : Src w' v l := by
  rcases h with h | h | ⟨b, off, cap, rfl, h1, h2⟩
  · exact Or.inl h
  · exact Or.inr (Or.inl h)
  · exact Or.inr (Or.inr ⟨b, off, cap, rfl, Nat.lt_of_lt_of_le h1 hb.size, fun j hj => (hb.cell (p := ⟨b, off + j, none⟩) h1).trans (h2 j hj)⟩)

/-- a source with a byte in it is a slice at a plain address -/
theorem Src.pos {w : World} {v : Value} {l : List Int} (h : Src w v l) (hl : 0 < l.length) :
    ∃ b off cap, v = .slice (some ⟨b, off, none⟩) l.length cap ∧ ∀ j, j < l.length → w.cell? ⟨b, off + j, none⟩ = some (.int .u8 (l.getD j 0)) := by
  rcases h with ⟨_, rfl⟩ | ⟨_, _, _, rfl⟩ | ⟨b, off, cap, rfl, _, h2⟩
  · simp at hl
  · simp at hl
  · exact ⟨b, off, cap, rfl, h2⟩

theorem Src.form {w : World} {v : Value} {l : List Int} (h : Src w v l) : ∃ a cap, v = .slice a l.length cap := by
  rcases h with ⟨rfl, rfl⟩ | ⟨x, cap, rfl, rfl⟩ | ⟨b, off, cap, rfl, _, _⟩
  · exact ⟨_, _, rfl⟩
  · exact ⟨_, _, rfl⟩
  · exact ⟨_, _, rfl⟩

section
set_option maxHeartbeats 400000
theorem bytes6_yes (a : Option Addr) (len cap : Nat) (bs : Int) (w : World) (h : len ≤ 1048576) :
    Calls Try.prog 6 #[.slice a len cap, .int .i64 bs] w fun e w' => e = .returned (.bool true) ∧ w' = w := by
  go_enter Try.func6, Try.ntmps6
  go_wp2
  go_ret
  exact ⟨rfl, rfl⟩
theorem bytes6_no (a : Option Addr) (len cap : Nat) (bs : Int) (w : World) (h : 1048576 < len) :
    Calls Try.prog 6 #[.slice a len cap, .int .i64 bs] w fun e w' => e = .returned (.bool false) ∧ w' = w := by
  go_enter Try.func6, Try.ntmps6
  go_wp2
  go_ret
  exact ⟨rfl, rfl⟩
theorem bytes9_yes (a : Option Addr) (len cap : Nat) (bs : Int) (w : World) (h : len ≤ 1048576) :
    Calls Try.prog 9 #[.slice a len cap, .int .i64 bs] w fun e w' => e = .returned (.bool true) ∧ w' = w := by
  go_enter Try.func9, Try.ntmps9
  go_wp2
  go_ret
  exact ⟨rfl, rfl⟩
theorem bytes9_no (a : Option Addr) (len cap : Nat) (bs : Int) (w : World) (h : 1048576 < len) :
    Calls Try.prog 9 #[.slice a len cap, .int .i64 bs] w fun e w' => e = .returned (.bool false) ∧ w' = w := by
  go_enter Try.func9, Try.ntmps9
  go_wp2
  go_ret
  exact ⟨rfl, rfl⟩
theorem bytes10_yes (a : Option Addr) (len cap : Nat) (bs : Int) (w : World) (h : len ≤ 1048576) :
    Calls Try.prog 10 #[.slice a len cap, .int .i64 bs] w fun e w' => e = .returned (.bool true) ∧ w' = w := by
  go_enter Try.func10, Try.ntmps10
  go_wp2
  go_ret
  exact ⟨rfl, rfl⟩
theorem bytes10_no (a : Option Addr) (len cap : Nat) (bs : Int) (w : World) (h : 1048576 < len) :
    Calls Try.prog 10 #[.slice a len cap, .int .i64 bs] w fun e w' => e = .returned (.bool false) ∧ w' = w := by
  go_enter Try.func10, Try.ntmps10
  go_wp2
  go_ret
  exact ⟨rfl, rfl⟩
end

/-! ### Plain arithmetic and lists -/
theorem total_eq (len bs : Nat) (h : 1 ≤ bs) : (len / bs + 1) * bs = len + padN len bs := by
  have h1 := Nat.div_add_mod len bs
  have h2 := Nat.mod_lt len (show 0 < bs by omega)
  unfold padN
  rw [Nat.add_mul, Nat.one_mul, Nat.mul_comm]
  omega

theorem padded_lo (l : List Int) (n j : Nat) (c : Int) (h : j < l.length) : (l ++ List.replicate n c).getD j 0 = l.getD j 0 := by
  simp [List.getD, List.getElem?_append_left h]
theorem padded_hi (l : List Int) (n j : Nat) (c : Int) (h : l.length ≤ j) (h2 : j < l.length + n) : (l ++ List.replicate n c).getD j 0 = c := by
  have h3 : j - l.length < n := by omega
  simp [List.getD, List.getElem?_append_right h, h3]
theorem padded_len (l : List Int) (n : Nat) (c : Int) : (l ++ List.replicate n c).length = l.length + n := by simp
end Go.Proofs.Qxb6605505a
