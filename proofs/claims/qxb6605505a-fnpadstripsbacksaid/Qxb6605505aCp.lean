/-
  Seat b6605505a: zzCopyBytes: a new row of the call's own, holding the bytes that the argument reads as.
-/
import Derived.Test.Qxb6605505aGr
import Derived.WalkKit
import Derived.OwnWalk
import Derived.Below
namespace Go.Proofs.Qxb6605505a
open Go.RowKit

/-- the slice value v reads as the bytes l -/
def Src (w : World) (v : Value) (l : List Int) : Prop :=
  (v = .slice none 0 0 ∧ l = []) ∨ (∃ x cap, v = .slice (some x) 0 cap ∧ l = []) ∨
  ∃ b off cap, v = .slice (some ⟨b, off, none⟩) l.length cap ∧ b < w.heap.size ∧ ∀ j, j < l.length → w.cell? ⟨b, off + j, none⟩ = some (.int .u8 (l.getD j 0))

/-- v owns, among the blocks from B on, a row of just the bytes l -/
def Own (w : World) (B : Nat) (v : Value) (l : List Int) : Prop := w.ownsRow B 5 1 v l.length (l.map (Value.int .u8))

theorem Own.src {w : World} {B : Nat} {v : Value} {l : List Int} (h : Own w B v l) : Src w v l := by
  have h' := h
  rcases h'.2 with ⟨rfl, hn⟩ | ⟨g, cap, cur, rfl, _, hg, _⟩
  · exact Or.inl ⟨rfl, List.eq_nil_of_length_eq_zero hn⟩
  · refine Or.inr (Or.inr ⟨g, 0, cap, rfl, (Array.getElem?_eq_some_iff.1 hg).1, fun j hj => ?_⟩)
    rw [Nat.zero_add, World.ownsRow.cellAt h j (by omega)]
    simp [List.getD, hj]

theorem eq_nil (a : Option Addr) (n c : Nat) (w : World) : (binOp .eql 22 (.slice a n c) (.slice none 0 0)).run Try.prog w = .ok (.bool a.isNone) w :=
  Lib.run_eql_slice_nil w 22 5 a n c 0 0 Try.underlying22

set_option maxHeartbeats 400000 in
theorem copy_nil (w : World) : Calls Try.prog 7 #[.slice none 0 0] w fun e w' => e = .returned (.slice none 0 0) ∧ w' = w := by
  have hn : ∀ w : World, (binOp .eql 22 (.slice none 0 0) (.slice none 0 0)).run Try.prog w = .ok (.bool true) w := fun w => eq_nil none 0 0 w
  go_enter Try.func7, Try.ntmps7
  go_wp2
  go_ret
  exact ⟨rfl, rfl⟩

set_option maxHeartbeats 400000 in
theorem copy_zero (x : Addr) (cap : Nat) (w : World) : Calls Try.prog 7 #[.slice (some x) 0 cap] w fun e w' => ∃ v', e = .returned v' ∧ Own w' w.heap.size v' [] ∧ Below w.heap.size w w' := by
  obtain ⟨i0, hi, hz0, hz1, hz2⟩ := info_parts info5
  have hn : ∀ w : World, (binOp .eql 22 (.slice (some x) 0 cap) (.slice none 0 0)).run Try.prog w = .ok (.bool false) w := fun w => eq_nil (some x) 0 cap w
  go_enter Try.func7, Try.ntmps7
  go_wp2_with (at_make; refine wpList_make_full _ rfl _ _ 22 rfl w.heap.size 5 i0 (.int .u8 0) 1 Try.underlying22 hi hz0 hz1 .i64 .i64 0 0 0 rfl rfl rfl rfl (by omega) (by decide) (Nat.le_refl _) ?_; intro w3 hown3 hgrow3; have hbw3 : Below w.heap.size w w3 := (Below.refl _ _).grown hgrow3 (Nat.le_refl _) (fun k hk => by cases hk); clear hgrow3)
  go_loopw [4] (fun i wr => i = .int .i64 0 ∧ wr = w3) (fun i _ => 0)
  case atStart => exact ⟨rfl, rfl⟩
  case round =>
    obtain ⟨rfl, hwr⟩ := hrel
    subst hwr
    have hown4 : Own wr w.heap.size (.slice (some ⟨w.heap.size, 0, none⟩) 0 0) [] := by
      have e : (madeCells (Value.int IntKind.u8 0).cells (0 * 1)).toList = [] := List.eq_nil_of_length_eq_zero (by have := hown3.1; omega)
      rw [e] at hown3
      exact hown3
    clear hown3
    go_wp2
    go_ret
    exact ⟨_, rfl, hown4, hbw3⟩

theorem set_hit {xs : List Value} {k n : Nat} {zs : List Int} (hl : xs.length = n) (hk : k < n) (h : ∀ j, j < k → xs[j]? = some (.int .u8 (zs.getD j 0))) :
    ∀ j, j < k + 1 → (xs.set k (.int .u8 (zs.getD k 0)))[j]? = some (.int .u8 (zs.getD j 0)) := by
  intro j hj
  by_cases e : j = k
  · subst e
    rw [List.getElem?_set_self (by omega)]
  · rw [List.getElem?_set_ne (by omega)]
    exact h j (by omega)

theorem all_hit {xs : List Value} {zs : List Int} (hl : xs.length = zs.length) (h : ∀ j, j < zs.length → xs[j]? = some (.int .u8 (zs.getD j 0))) : xs = zs.map (Value.int .u8) := by
  apply List.ext_getElem?
  intro i
  by_cases hi : i < zs.length
  · rw [h i hi]
    simp [List.getD, hi]
  · rw [List.getElem?_eq_none (by omega), List.getElem?_eq_none (by simp; omega)]

set_option maxHeartbeats 800000 in
theorem copy_pos (b off cap : Nat) (l : List Int) (w : World) (hl : l.length ≤ 1000000) (hb : b < w.heap.size) (hc : ∀ j, j < l.length → w.cell? ⟨b, off + j, none⟩ = some (.int .u8 (l.getD j 0))) :
    Calls Try.prog 7 #[.slice (some ⟨b, off, none⟩) l.length cap] w fun e w' => ∃ v', e = .returned v' ∧ Own w' w.heap.size v' l ∧ Below w.heap.size w w' := by
  obtain ⟨i0, hi, hz0, hz1, hz2⟩ := info_parts info5
  have hn : ∀ w : World, (binOp .eql 22 (.slice (some ⟨b, off, none⟩) l.length cap) (.slice none 0 0)).run Try.prog w = .ok (.bool false) w := fun w => eq_nil (some ⟨b, off, none⟩) l.length cap w
  have HC : Hid (∀ j, j < l.length → w.cell? ⟨b, off + j, none⟩ = some (.int .u8 (l.getD j 0))) := hc
  clear hc
  go_enter Try.func7, Try.ntmps7
  go_wp2_with (at_make; refine wpList_make_full _ rfl _ _ 22 rfl w.heap.size 5 i0 (.int .u8 0) 1 Try.underlying22 hi hz0 hz1 .i64 .i64 (l.length : Int) (l.length : Int) l.length rfl rfl rfl rfl (by rw [hz2]; omega) (by unfold maxLen; omega) (Nat.le_refl _) ?_; intro w3 hown3 hgrow3; have hbw3 : Below w.heap.size w w3 := (Below.refl _ _).grown hgrow3 (Nat.le_refl _) (fun k hk => by cases hk); clear hgrow3)
  clear hi hz0 hz1 hz2
  go_loopw [4] (fun i wr => ∃ (k : Nat) (xs : List Value), k ≤ l.length ∧ i = .int .i64 k ∧ wr.ownsRow w.heap.size 5 1 (.slice (some ⟨w.heap.size, 0, none⟩) l.length l.length) l.length xs ∧ (∀ j, j < k → xs[j]? = some (.int .u8 (l.getD j 0))) ∧ Below w.heap.size w wr) (fun i _ => l.length - (intOf i).toNat)
  case atStart => exact ⟨0, _, Nat.zero_le _, rfl, hown3, fun j hj => absurd hj (Nat.not_lt_zero _), hbw3⟩
  case round =>
    obtain ⟨k, xs, hk, rfl, hown, hxs, hbr⟩ := hrel
    have hlen : xs.length = l.length := by have := hown.1; omega
    have HX : Hid (∀ j, j < k → xs[j]? = some (.int .u8 (l.getD j 0))) := hxs
    have HL : Hid (xs.length = l.length) := hlen
    clear hxs
    by_cases hlt : k < l.length
    · have hck : wr.cell? ⟨b, off + k, none⟩ = some (.int .u8 (l.getD k 0)) := (hbr.cell (p := ⟨b, off + k, none⟩) hb).trans (HC.out k hlt)
      have hcd : wr.cell? ⟨w.heap.size, k, none⟩ = some (xs[k]'(by omega)) := by rw [hown.cellAt k (by omega), List.getElem?_eq_getElem]
      have hfr : wr.frozen? ⟨w.heap.size, k, none⟩ = false := hown.frozenAt k
      have HS : Hid ((wr.setCell ⟨w.heap.size, k, none⟩ (.int .u8 (l.getD k 0))).ownsRow w.heap.size 5 1 (.slice (some ⟨w.heap.size, 0, none⟩) l.length l.length) l.length (xs.set k (.int .u8 (l.getD k 0)))) := (hown.stored k (.int .u8 (l.getD k 0))).1
      have HT : Hid (∀ j, j < k + 1 → (xs.set k (.int .u8 (l.getD k 0)))[j]? = some (.int .u8 (l.getD j 0))) := set_hit HL.out hlt HX.out
      generalize xs[k]'(by omega) = old at hcd
      generalize l.getD k 0 = z at hck HS HT
      clear hlen
      go_wp2
      go_roundw
      case rel => exact ⟨k + 1, _, by omega, by go_num, HS.out, HT.out, hbr.setCell (Nat.le_refl _) _⟩
      case measure => simp [intOf]; omega
    · clear hlen
      go_wp2
      go_ret
      refine ⟨_, rfl, ?_, hbr⟩
      have e := all_hit HL.out (fun j hj => HX.out j (by omega))
      unfold Own
      rw [← e]
      exact hown

theorem copy_any (v : Value) (l : List Int) (w : World) (h : Src w v l) (hl : l.length ≤ 1000000) :
    Calls Try.prog 7 #[v] w fun e w' => ∃ v', e = .returned v' ∧ Own w' w.heap.size v' l ∧ Below w.heap.size w w' := by
  rcases h with ⟨rfl, rfl⟩ | ⟨x, cap, rfl, rfl⟩ | ⟨b, off, cap, rfl, hb, hc⟩
  · refine (copy_nil w).mono ?_
    rintro e w' ⟨rfl, rfl⟩
    exact ⟨_, rfl, World.ownsRow_nil _ _ _ _, Below.refl _ _⟩
  · exact copy_zero x cap w
  · exact copy_pos b off cap l w hl hb hc
end Go.Proofs.Qxb6605505a
