/-
  Seat b6605158aD: zzDecimal.
-/
import Derived.Test.Qxb6605158aDoorSd
namespace Go.Proofs.Qxb6605158aDoor.Dc
open Go.RowKit Plain Th

/-- The array of 24 bytes, its last places written with L. -/
def Buf (B : Nat) (L : List UInt8) (wr : World) : Prop :=
  (∀ j, j < 24 → ∃ z : Int, wr.cell? ⟨B, j, none⟩ = some (.int .u8 z)) ∧ (∀ j (h : j < L.length), wr.cell? ⟨B, 24 - L.length + j, none⟩ = some (.int .u8 (L[j].toNat : Int))) ∧ (∀ j, j < 24 → wr.frozen? ⟨B, j, none⟩ = false)

theorem buf_start (w : World) : Buf w.heap.size [] (w.alloc (.cells #[.int .u8 0, .int .u8 0, .int .u8 0, .int .u8 0, .int .u8 0, .int .u8 0, .int .u8 0, .int .u8 0, .int .u8 0, .int .u8 0, .int .u8 0, .int .u8 0, .int .u8 0, .int .u8 0, .int .u8 0, .int .u8 0, .int .u8 0, .int .u8 0, .int .u8 0, .int .u8 0, .int .u8 0, .int .u8 0, .int .u8 0, .int .u8 0] 31)) := by
  refine ⟨fun j hj => ⟨0, ?_⟩, fun j hj => absurd hj (Nat.not_lt_zero _), fun j hj => ?_⟩
  · rcases j with _ | _ | _ | _ | _ | _ | _ | _ | _ | _ | _ | _ | _ | _ | _ | _ | _ | _ | _ | _ | _ | _ | _ | _ | j
    all_goals first | simp; done | omega
  · simp

theorem buf_step {B : Nat} {L : List UInt8} {wr : World} (h : Buf B L wr) (m : Nat) (hm : m + 1 + L.length = 24) (c : UInt8) : Buf B (c :: L) (wr.setCell ⟨B, m, none⟩ (.int .u8 (c.toNat : Int))) := by
  obtain ⟨h1, h2, h3⟩ := h
  obtain ⟨z0, hz0⟩ := h1 m (by omega)
  have hne : ∀ j, j ≠ m → (⟨B, m, none⟩ : Addr) ≠ ⟨B, j, none⟩ := by
    intro j hj he
    injection he with _ h2 _
    exact hj h2.symm
  refine ⟨fun j hj => ?_, fun j hj => ?_, fun j hj => ?_⟩
  · by_cases e : j = m
    · subst e; exact ⟨_, World.cell?_setCell_same _ _ _ hz0⟩
    · rw [World.cell?_setCell_other _ _ _ _ (hne j e)]; exact h1 j hj
  · simp only [List.length_cons] at hj
    have e0 : 24 - (c :: L).length + j = m + j := by simp; omega
    rw [e0]
    cases j with
    | zero => exact World.cell?_setCell_same _ _ _ hz0
    | succ j =>
      rw [World.cell?_setCell_other _ _ _ _ (hne _ (by omega))]
      have := h2 j (by omega)
      rw [show 24 - L.length + j = m + (j + 1) by omega] at this
      rw [this]
      rfl
  · rw [World.frozen?_setCell]; exact h3 j hj

theorem buf_string {B : Nat} {L : List UInt8} {wr : World} (h : Buf B L wr) (m : Nat) (hm : m + L.length = 24) :
    (convert 29 9 (.slice (some ⟨B, m, none⟩) (24 - m) (24 - m))).run Tryd.prog wr = .ok (.string ⟨L.toArray⟩) wr := by
  have e : 24 - m = L.length := by omega
  rw [e]
  refine run_convert_bytes_back wr 29 9 5 ⟨B, m, none⟩ _ L Tryd.underlying29 Tryd.underlying5 Tryd.underlying9 ?_
  intro j hj
  have := h.2.1 j hj
  rw [show 24 - L.length + j = m + j by omega] at this
  have hplain : (⟨B, m, none⟩ : Addr).add j = ⟨B, m + j, none⟩ := by unfold Addr.add; split <;> simp_all
  rw [hplain]
  exact this

theorem slice_buf (W : World) (B m : Nat) (h : m < 24) : (Instr.sliceAt 31 (.pointer (some ⟨B, 0, none⟩)) (some (.int .i64 (m : Int))) none none).run Tryd.prog W = .ok (.slice (some ⟨B, m, none⟩) (24 - m) (24 - m)) W := by
  have hal : Tryd.prog.arrayLen 31 = 24 := by simp [Program.arrayLen, Tryd.underlying31]
  have hel : Tryd.prog.elem 31 = 5 := by simp [Program.elem, Tryd.underlying31]
  rw [run_sliceAt_array_l W 31 ⟨B, 0, none⟩ (by simp [Program.arrayLen, Program.elem, Tryd.underlying31]) .i64 (m : Int) (by omega) (by rw [hal]; omega)]
  rw [hal, hel, Tryd.sizeOf5]
  have hplain : (⟨B, 0, none⟩ : Addr).add (m * 1) = ⟨B, m, none⟩ := by unfold Addr.add; split <;> simp_all
  simp only [Result.andThen, slicedAt, Int.toNat_natCast]
  rw [if_neg (by omega), hplain]

/-- The digits still to write and those written. -/
theorem dec_len20 (u : Nat) (hu : u ≤ 9223372036854775808) : (Lib.decDigits u).length ≤ 21 := by
  by_cases h : u ≤ 9223372036854775807
  · have h2 := Lib.itoa_length_le (u : Int) (by omega) (by omega)
    rw [Lib.itoa_nonneg] at h2
    exact h2
  · have e : u = 9223372036854775808 := by omega
    have h2 := Lib.itoa_length_le (-(u : Int)) (by omega) (by omega)
    rw [Lib.itoa_neg u (by omega)] at h2
    simp at h2
    omega

set_option maxHeartbeats 1000000 in
theorem decimal_pos (u : Nat) (hu : u ≤ 9223372036854775807) (w : World) :
    Calls Tryd.prog 9 #[.int .i64 u] w fun e w' => e = .returned (.string ⟨(Lib.decDigits u).toArray⟩) ∧ Below w.heap.size w w' := by
  go_enter Tryd.func9, Tryd.ntmps9
  go_wp2
  go_loopw [3, 6] (fun t i wr => ∃ (q m : Nat) (L : List UInt8), q ≤ 9223372036854775807 ∧ t = .int .u64 q ∧ m + L.length = 24 ∧ i = .int .i64 m ∧ Lib.decDigits u = Lib.decDigits q ++ L ∧ Buf w.heap.size L wr ∧ Below w.heap.size w wr ∧ w.heap.size + 1 ≤ wr.heap.size) (fun _ i _ => (intOf i).toNat)
  case atStart =>
    exact ⟨u, 24, [], hu, rfl, rfl, rfl, by simp, buf_start w, (Below.refl _ _).alloc (Nat.le_refl _) _, by simp⟩
  case round =>
    obtain ⟨q, m, L, hq, rfl, hmL, rfl, hdec, hB, hbr, hsr⟩ := hrel
    have hl1 := dec_len20 u (by omega)
    have hl2 : 1 ≤ (Lib.decDigits q).length := by
      cases e : Lib.decDigits q with
      | nil => exact absurd e (dec_ne q)
      | cons _ _ => simp
    have hl3 : L.length ≤ 20 := by rw [hdec, List.length_append] at hl1; omega
    clear hl1 hl2
    obtain ⟨m, rfl⟩ : ∃ k, m = k + 1 := ⟨m - 1, by omega⟩
    have hm3 : 3 ≤ m := by omega
    have hm23 : m ≤ 23 := by omega
    have HML : Hid (m + 1 + L.length = 24) := hmL
    have HDEC : Hid (Lib.decDigits u = Lib.decDigits q ++ L) := hdec
    clear hmL hdec
    obtain ⟨z, hz⟩ := hB.1 m (by omega)
    have hfr := hB.2.2 m (by omega)
    have hm1 : ((m : Int) == 1) = false := by simp; omega
    have hdc : ((dch (q % 10)).toNat : Int) = 48 + (q : Int) % 10 := by
      unfold dch
      rw [UInt8.toNat_ofNat']
      omega
    have HB1 : Hid (Buf w.heap.size (dch (q % 10) :: L) (wr.setCell ⟨w.heap.size, m, none⟩ (.int .u8 (48 + (q : Int) % 10)))) := by
      rw [← hdc]
      exact buf_step hB m HML.out (dch (q % 10))
    clear hdc
    by_cases hlast : q / 10 = 0
    · have hl : (((q : Int) / 10) == 0) = true := by simp; omega
      have hsl : ∀ W : World, (Instr.sliceAt 31 (.pointer (some ⟨w.heap.size, 0, none⟩)) (some (.int .i64 (m : Int))) none none).run Tryd.prog W = .ok (.slice (some ⟨w.heap.size, m, none⟩) (24 - m) (24 - m)) W := fun W => slice_buf W _ m (by omega)
      have hst := buf_string HB1.out m (by have := HML.out; simp; omega)
      have HE : Hid (Lib.decDigits u = dch (q % 10) :: L) := by
        rw [HDEC.out, dec_small q (by omega), Nat.mod_eq_of_lt (show q < 10 by omega)]
        exact rfl
      go_wp2
      go_ret
      refine ⟨?_, hbr.setCell (Nat.le_refl _) _⟩
      rw [HE.out]
      rfl
    · have hl : (((q : Int) / 10) == 0) = false := by simp; omega
      go_wp2
      go_roundw
      case rel =>
        refine ⟨q / 10, m, dch (q % 10) :: L, by omega, by go_num, by have := HML.out; simp; omega, rfl, ?_, HB1.out, hbr.setCell (Nat.le_refl _) _, by rw [World.size_setCell]; exact hsr⟩
        rw [HDEC.out, dec_big q (by omega)]
        simp
      case measure => simp [intOf]
theorem wrap_neg (u : Nat) (h : u ≤ 9223372036854775808) : IntKind.u64.wrap (-IntKind.u64.wrap (-(u : Int))) = (u : Int) := by
  simp only [IntKind.wrap, IntKind.signed, IntKind.bits]
  simp
  omega

set_option maxHeartbeats 1000000 in
theorem decimal_neg (u : Nat) (hu0 : 1 ≤ u) (hu : u ≤ 9223372036854775808) (w : World) :
    Calls Tryd.prog 9 #[.int .i64 (-(u : Int))] w fun e w' => e = .returned (.string ⟨(45 :: Lib.decDigits u).toArray⟩) ∧ Below w.heap.size w w' := by
  go_enter Tryd.func9, Tryd.ntmps9
  go_wp2
  go_loopw [3, 6] (fun t i wr => ∃ (q m : Nat) (L : List UInt8), q ≤ 9223372036854775808 ∧ t = .int .u64 q ∧ m + L.length = 24 ∧ i = .int .i64 m ∧ Lib.decDigits u = Lib.decDigits q ++ L ∧ Buf w.heap.size L wr ∧ Below w.heap.size w wr ∧ w.heap.size + 1 ≤ wr.heap.size) (fun _ i _ => (intOf i).toNat)
  case atStart =>
    exact ⟨u, 24, [], hu, by rw [wrap_neg u hu], rfl, rfl, by simp, buf_start w, (Below.refl _ _).alloc (Nat.le_refl _) _, by simp⟩
  case round =>
    obtain ⟨q, m, L, hq, rfl, hmL, rfl, hdec, hB, hbr, hsr⟩ := hrel
    have hl1 := dec_len20 u (by omega)
    have hl2 : 1 ≤ (Lib.decDigits q).length := by
      cases e : Lib.decDigits q with
      | nil => exact absurd e (dec_ne q)
      | cons _ _ => simp
    have hl3 : L.length ≤ 20 := by rw [hdec, List.length_append] at hl1; omega
    clear hl1 hl2
    obtain ⟨m, rfl⟩ : ∃ k, m = k + 1 := ⟨m - 1, by omega⟩
    have hm3 : 3 ≤ m := by omega
    have hm23 : m ≤ 23 := by omega
    have HML : Hid (m + 1 + L.length = 24) := hmL
    have HDEC : Hid (Lib.decDigits u = Lib.decDigits q ++ L) := hdec
    clear hmL hdec
    obtain ⟨z, hz⟩ := hB.1 m (by omega)
    have hfr := hB.2.2 m (by omega)
    have hm1 : ((m : Int) == 1) = false := by simp; omega
    have hdc : ((dch (q % 10)).toNat : Int) = 48 + (q : Int) % 10 := by
      unfold dch
      rw [UInt8.toNat_ofNat']
      omega
    have HB1 : Hid (Buf w.heap.size (dch (q % 10) :: L) (wr.setCell ⟨w.heap.size, m, none⟩ (.int .u8 (48 + (q : Int) % 10)))) := by
      rw [← hdc]
      exact buf_step hB m HML.out (dch (q % 10))
    clear hdc
    by_cases hlast : q / 10 = 0
    · have hl : (((q : Int) / 10) == 0) = true := by simp; omega
      obtain ⟨m, rfl⟩ : ∃ k, m = k + 1 := ⟨m - 1, by omega⟩
      have hsl : ∀ W : World, (Instr.sliceAt 31 (.pointer (some ⟨w.heap.size, 0, none⟩)) (some (.int .i64 (m : Int))) none none).run Tryd.prog W = .ok (.slice (some ⟨w.heap.size, m, none⟩) (24 - m) (24 - m)) W := fun W => slice_buf W _ m (by omega)
      obtain ⟨z2, hz2⟩ := HB1.out.1 m (by omega)
      have hB2 : Buf w.heap.size (45 :: dch (q % 10) :: L) ((wr.setCell ⟨w.heap.size, m + 1, none⟩ (.int .u8 (48 + (q : Int) % 10))).setCell ⟨w.heap.size, m, none⟩ (.int .u8 45)) := buf_step HB1.out m (by have := HML.out; simp; omega) 45
      have hst := buf_string hB2 m (by have := HML.out; simp; omega)
      have hfr2 := hB.2.2 m (by omega)
      have HE : Hid (Lib.decDigits u = dch (q % 10) :: L) := by
        rw [HDEC.out, dec_small q (by omega), Nat.mod_eq_of_lt (show q < 10 by omega)]
        exact rfl
      clear hB2
      go_wp2
      go_ret
      refine ⟨?_, (hbr.setCell (Nat.le_refl _) _).setCell (Nat.le_refl _) _⟩
      rw [HE.out]
      rfl
    · have hl : (((q : Int) / 10) == 0) = false := by simp; omega
      go_wp2
      go_roundw
      case rel =>
        refine ⟨q / 10, m, dch (q % 10) :: L, by omega, by go_num, by have := HML.out; simp; omega, rfl, ?_, HB1.out, hbr.setCell (Nat.le_refl _) _, by rw [World.size_setCell]; exact hsr⟩
        rw [HDEC.out, dec_big q (by omega)]
        simp
      case measure => simp [intOf]

theorem decimal_any (n : Int) (h0 : -9223372036854775808 ≤ n) (h1 : n ≤ 9223372036854775807) (w : World) :
    Calls Tryd.prog 9 #[.int .i64 n] w fun e w' => e = .returned (.string ⟨(Lib.itoa n).toArray⟩) ∧ Below w.heap.size w w' := by
  by_cases h : n < 0
  · obtain ⟨u, rfl⟩ : ∃ u : Nat, n = -(u : Int) := ⟨n.natAbs, by omega⟩
    rw [Lib.itoa_neg u (by omega)]
    exact decimal_neg u (by omega) (by omega) w
  · obtain ⟨u, rfl⟩ : ∃ u : Nat, n = (u : Int) := ⟨n.toNat, by omega⟩
    rw [Lib.itoa_nonneg]
    exact decimal_pos u (by omega) w
end Go.Proofs.Qxb6605158aDoor.Dc
