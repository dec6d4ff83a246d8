/-
  Seat b6605158aD: zzThousands.
-/
import Derived.Test.Qxb6605158aDoorTh
namespace Go.Proofs.Qxb6605158aDoor.Th
open Go.RowKit Plain

/-- the j-th group of three -/
def g3 (u j : Nat) : Nat := u / 1000 ^ j % 1000

theorem pow_bound (u m : Nat) (hu : u ≤ 9223372036854775807) (h : 1 ≤ u / 1000 ^ m) : m ≤ 6 := by
  have hp : 0 < 1000 ^ m := Nat.pow_pos (by decide)
  have h1 : 1000 ^ m ≤ u := by
    have := (Nat.le_div_iff_mul_le hp).1 h
    omega
  by_cases hm : m ≤ 6
  · exact hm
  · have : 1000 ^ 7 ≤ 1000 ^ m := Nat.pow_le_pow_right (by decide) (by omega)
    omega

/-- What the call knows of its array of groups, m of them written. -/
def Groups (u B m : Nat) (wr : World) : Prop :=
  (∀ j, j < 8 → ∃ z : Int, wr.cell? ⟨B, j, none⟩ = some (.int .u64 z)) ∧ (∀ j, j < m → wr.cell? ⟨B, j, none⟩ = some (.int .u64 (g3 u j : Nat))) ∧ (∀ j, j < 8 → wr.frozen? ⟨B, j, none⟩ = false)

theorem groups_start (u : Nat) (w : World) : Groups u w.heap.size 0 (w.alloc (.cells #[.int .u64 0, .int .u64 0, .int .u64 0, .int .u64 0, .int .u64 0, .int .u64 0, .int .u64 0, .int .u64 0] 28)) := by
  refine ⟨fun j hj => ⟨0, ?_⟩, fun j hj => absurd hj (Nat.not_lt_zero _), fun j hj => ?_⟩
  · match j, hj with
    | 0, _ | 1, _ | 2, _ | 3, _ | 4, _ | 5, _ | 6, _ | 7, _ => simp
  · simp

theorem groups_step {u B m : Nat} {wr : World} (h : Groups u B m wr) (hm : m < 8) : Groups u B (m + 1) (wr.setCell ⟨B, m, none⟩ (.int .u64 (g3 u m : Nat))) := by
  obtain ⟨h1, h2, h3⟩ := h
  obtain ⟨z0, hz0⟩ := h1 m hm
  have hne : ∀ j, j ≠ m → (⟨B, m, none⟩ : Addr) ≠ ⟨B, j, none⟩ := by
    intro j hj he
    injection he with _ h2 _
    exact hj h2.symm
  refine ⟨fun j hj => ?_, fun j hj => ?_, fun j hj => ?_⟩
  · by_cases e : j = m
    · subst e; exact ⟨_, World.cell?_setCell_same _ _ _ hz0⟩
    · rw [World.cell?_setCell_other _ _ _ _ (hne j e)]; exact h1 j hj
  · by_cases e : j = m
    · subst e; exact World.cell?_setCell_same _ _ _ hz0
    · rw [World.cell?_setCell_other _ _ _ _ (hne j e)]; exact h2 j (by omega)
  · rw [World.frozen?_setCell]; exact h3 j hj

theorem groups_below {u B m : Nat} {wr w' : World} (h : Groups u B m wr) (hb : Below (B + 1) wr w') : Groups u B m w' := by
  obtain ⟨h1, h2, h3⟩ := h
  refine ⟨fun j hj => ?_, fun j hj => ?_, fun j hj => ?_⟩
  · rw [hb.cell (p := ⟨B, j, none⟩) (Nat.lt_succ_self B)]; exact h1 j hj
  · rw [hb.cell (p := ⟨B, j, none⟩) (Nat.lt_succ_self B)]; exact h2 j hj
  · rw [hb.frozen (p := ⟨B, j, none⟩) (Nat.lt_succ_self B)]; exact h3 j hj

theorem own_string {w : World} {B : Nat} {v : Value} {l : List UInt8} (h : w.ownsRow B 5 1 v l.length (Lib.byteCells l)) :
    (convert 29 9 v).run Tryd.prog w = .ok (.string ⟨l.toArray⟩) w := by
  have hcl := fun g hg => h.cells (g := g) hg
  rcases h.2 with ⟨rfl, hn⟩ | ⟨g, cap, cur, rfl, _⟩
  · obtain rfl : l = [] := List.eq_nil_of_length_eq_zero hn
    exact run_convert_bytes_nil w 29 5 Tryd.underlying29 Tryd.underlying5 0 0 9 Tryd.underlying9
  · refine run_convert_bytes_back w 29 9 5 ⟨g, 0, none⟩ cap l Tryd.underlying29 Tryd.underlying5 Tryd.underlying9 ?_
    intro j hj
    refine hcl g rfl j _ ?_
    unfold Lib.byteCells
    simp [List.getElem?_eq_getElem hj]

theorem dec_len (u : Nat) (hu : u ≤ 9223372036854775807) : (grouped (Lib.decDigits u)).length ≤ 42 := by
  have h1 := grouped_length (Lib.decDigits u)
  have h2 := Lib.itoa_length_le (u : Int) (by omega) (by omega)
  rw [Lib.itoa_nonneg] at h2
  omega

theorem three_cells (g : Nat) (h : g < 1000) : Lib.byteCells (three g) = [.int .u8 44] ++ [.int .u8 (48 + (g : Int) / 100)] ++ [.int .u8 (48 + (g : Int) / 10 % 10)] ++ [.int .u8 (48 + (g : Int) % 10)] := by
  have c1 : Lib.byteCells [dch (g % 10)] = [.int .u8 (48 + (g : Int) % 10)] := by rw [dch_cell _ (by omega)]; rfl
  have c2 : Lib.byteCells [dch (g / 10 % 10)] = [.int .u8 (48 + (g : Int) / 10 % 10)] := by rw [dch_cell _ (by omega)]; rfl
  have c3 : Lib.byteCells [dch (g / 100)] = [.int .u8 (48 + (g : Int) / 100)] := by rw [dch_cell _ (by omega)]; rfl
  have e : three g = [44] ++ ([dch (g / 100)] ++ ([dch (g / 10 % 10)] ++ [dch (g % 10)])) := rfl
  rw [e, Lib.byteCells_append, Lib.byteCells_append, Lib.byteCells_append, c1, c2, c3]
  simp only [List.append_assoc]
  rfl

/-- One round of the second loop, in plain words. -/
theorem group_round (u p : Nat) (h : 1 ≤ u / 1000 ^ (p + 1)) : grouped (Lib.decDigits (u / 1000 ^ p)) = grouped (Lib.decDigits (u / 1000 ^ (p + 1))) ++ three (g3 u p) := by
  have e : u / 1000 ^ p / 1000 = u / 1000 ^ (p + 1) := by rw [Nat.pow_succ, Nat.div_div_eq_div_mul]
  rw [grouped_step (u / 1000 ^ p) (by omega), e]
  rfl

theorem div_mono (u p m : Nat) (hpm : p ≤ m) (h : 1 ≤ u / 1000 ^ m) : 1 ≤ u / 1000 ^ p := by
  have h1 : 0 < 1000 ^ m := Nat.pow_pos (by decide)
  have h2 : 0 < 1000 ^ p := Nat.pow_pos (by decide)
  have h3 : 1000 ^ p ≤ 1000 ^ m := Nat.pow_le_pow_right (by decide) hpm
  have h4 := (Nat.le_div_iff_mul_le h1).1 h
  exact (Nat.le_div_iff_mul_le h2).2 (by omega)

set_option maxHeartbeats 1000000 in
theorem thousands_any (u : Nat) (hu : u ≤ 9223372036854775807) (w : World) :
    Calls Tryd.prog 6 #[.int .u64 u] w fun e w' => e = .returned (.string ⟨(grouped (Lib.decDigits u)).toArray⟩) ∧ Below w.heap.size w w' := by
  go_enter Tryd.func6, Tryd.ntmps6
  go_wp2
  go_loopw [0, 4] (fun t k wr => ∃ m q : Nat, m ≤ 6 ∧ k = .int .i64 m ∧ q ≤ 9223372036854775807 ∧ t = .int .u64 q ∧ q = u / 1000 ^ m ∧ (m = 0 ∨ 1 ≤ q) ∧
      Groups u w.heap.size m wr ∧ Below w.heap.size w wr ∧ w.heap.size + 1 ≤ wr.heap.size) (fun _ k _ => 8 - (intOf k).toNat)
  case atStart =>
    exact ⟨0, u, by omega, rfl, hu, rfl, by simp, Or.inl rfl, groups_start u w, (Below.refl _ _).alloc (Nat.le_refl _) _, by simp⟩
  case round =>
    obtain ⟨m, q, hm, rfl, hq, rfl, hqe, hm0, hG, hbw, hsz⟩ := hrel
    obtain ⟨z, hz⟩ := hG.1 m (by omega)
    have hfr := hG.2.2 m (by omega)
    have HQ : Hid (q = u / 1000 ^ m) := hqe
    have HM0 : Hid (m = 0 ∨ 1 ≤ q) := hm0
    clear hqe hm0
    obtain ⟨i0, hi, hz0, hz1, hz2⟩ := info_parts info5
    by_cases hlast : q / 1000 = 0
    · have hl : (((q : Int) / 1000) == 0) = true := by simp; omega
      clear hlast
      have hG1 := groups_step hG (show m < 8 by omega)
      have hb1 : Below w.heap.size w (wr.setCell ⟨w.heap.size, m, none⟩ (.int .u64 (g3 u m : Nat))) := hbw.setCell (Nat.le_refl _) _
      have hs1 : w.heap.size + 1 ≤ (wr.setCell ⟨w.heap.size, m, none⟩ (.int .u64 (g3 u m : Nat))).heap.size := by rw [World.size_setCell]; exact hsz
      have hg : ((q : Int) % 1000) = ((g3 u m : Nat) : Int) := by unfold g3; rw [← HQ.out]; omega
      clear hG hbw hsz
      have hg3lt : g3 u m < 1000 := Nat.mod_lt _ (by decide)
      have HG3 : Hid (grouped (Lib.decDigits (u / 1000 ^ m)) = plain (g3 u m)) := by
        have hq3 : q / 1000 = 0 := by simp at hl; omega
        have e : g3 u m = q := by unfold g3; rw [← HQ.out]; omega
        rw [e, ← HQ.out, grouped_plain q (by omega)]
        exact rfl
      have HM : Hid (m = 0 ∨ 1 ≤ u / 1000 ^ m) := by
        have h1 := HM0.out
        rw [HQ.out] at h1
        exact h1
      go_wp2_with (first | (at_make; generalize wr.setCell ⟨w.heap.size, m, none⟩ (.int .u64 (g3 u m : Nat)) = W2 at hG1 hb1 hs1 ⊢; refine wpList_make_own _ rfl _ _ 29 rfl (w.heap.size + 1) 5 i0 (.int .u8 0) 1 Tryd.underlying29 hi hz0 hz1 .i64 .i64 32 32 rfl rfl rfl (by rw [hz2]; decide) (by decide) hs1 ?_; intro w3 hown3 hgrow3; have hbw3 : Below (w.heap.size + 1) W2 w3 := (Below.refl _ _).grown hgrow3 hs1 (fun k hk => by cases hk); have hG3 := groups_below hG1 hbw3; have hc3 := hG3.2.1 m (Nat.lt_succ_self m); have hs3 : w.heap.size + 1 ≤ w3.heap.size := Nat.le_trans hs1 hbw3.size; clear hz hfr hgrow3) | (go_at_call 11; refine (plain_any (g3 u m) hg3lt (w.heap.size + 1) _ 0 [] _ hown3 (by omega) hs3).mono ?_; rintro e w4 ⟨v4, rfl, hown4, hbw4⟩; have hG4 := groups_below hG3 hbw4; have hb4 : Below w.heap.size w w4 := (hb1.trans (hbw3.mono (by omega))).trans (hbw4.mono (by omega)); have hs4 : w.heap.size + 1 ≤ w4.heap.size := Nat.le_trans hs3 hbw4.size; clear hc3 hG3 hbw3 hbw4 hown3 hs3 hG1 hb1 hs1))
      simp only [Nat.zero_add, List.nil_append] at hown4
      clear hl hg hi hz0 hz1 hz2
      go_loopw [5, 6] (fun v j wr => ∃ p : Nat, p ≤ m ∧ j = .int .i64 ((p : Int) - 1) ∧ wr.ownsRow (w.heap.size + 1) 5 1 v (grouped (Lib.decDigits (u / 1000 ^ p))).length (Lib.byteCells (grouped (Lib.decDigits (u / 1000 ^ p)))) ∧
        Groups u w.heap.size (m + 1) wr ∧ Below w.heap.size w wr ∧ w.heap.size + 1 ≤ wr.heap.size) (fun _ j _ => (intOf j + 1).toNat)
      case atStart =>
        refine ⟨m, Nat.le_refl _, by go_num, ?_, hG4, hb4, hs4⟩
        rw [HG3.out]
        exact hown4
      case round =>
        obtain ⟨p, hp, rfl, hownr, hGr, hbr, hsr⟩ := hrel
        have hlen : (grouped (Lib.decDigits (u / 1000 ^ p))).length ≤ 42 := dec_len _ (Nat.le_trans (Nat.div_le_self _ _) hu)
        by_cases hp0 : 0 < p
        · obtain ⟨p, rfl⟩ : ∃ k, p = k + 1 := ⟨p - 1, by omega⟩
          have hcp := hGr.2.1 p (by omega)
          have hg3p : g3 u p < 1000 := Nat.mod_lt _ (by decide)
          have HGR : Hid (grouped (Lib.decDigits (u / 1000 ^ p)) = grouped (Lib.decDigits (u / 1000 ^ (p + 1))) ++ three (g3 u p)) :=
            group_round u p (div_mono u (p + 1) m hp (by rcases HM.out with h | h <;> omega))
          have HTC := three_cells (g3 u p) hg3p
          have HT : Hid _ := HTC
          clear HTC
          generalize grouped (Lib.decDigits (u / 1000 ^ (p + 1))) = l0 at hownr hlen HGR
          generalize g3 u p = g at hcp hg3p HGR HT
          go_wp2_with (first | (at_builtin; refine app1 rfl (.tmp 36) _ rfl (w.heap.size + 1) _ _ _ _ _ rfl hownr rfl (by omega) hsr ?_; intro v5 w5 hown5 hbw5 hs5) | (at_builtin; refine app1 rfl (.tmp 39) _ rfl (w.heap.size + 1) _ _ _ _ _ rfl hown5 rfl (by omega) hs5 ?_; intro v6 w6 hown6 hbw6 hs6) | (at_builtin; refine app1 rfl (.tmp 46) _ rfl (w.heap.size + 1) _ _ _ _ _ rfl hown6 rfl (by omega) hs6 ?_; intro v7 w7 hown7 hbw7 hs7) | (at_builtin; refine app1 rfl (.tmp 54) _ rfl (w.heap.size + 1) _ _ _ _ _ rfl hown7 rfl (by omega) hs7 ?_; intro v8 w8 hown8 hbw8 hs8))
          go_roundw
          case rel =>
            have hb8 := ((hbw5.trans hbw6).trans hbw7).trans hbw8
            refine ⟨p, by omega, by go_num, ?_, groups_below hGr hb8, hbr.trans (hb8.mono (by omega)), hs8⟩
            rw [HGR.out, Lib.byteCells_append, HT.out]
            simp only [List.append_assoc] at hown8 ⊢
            simpa [three] using hown8
          case measure => simp [intOf]
        · obtain rfl : p = 0 := by omega
          have hcv := own_string hownr
          go_wp2
          go_ret
          refine ⟨?_, hbr⟩
          simp
    · have hl : (((q : Int) / 1000) == 0) = false := by simp; omega
      have hqs : q / 1000 = u / 1000 ^ (m + 1) := by rw [HQ.out, Nat.pow_succ, Nat.div_div_eq_div_mul]
      have hm6 : m + 1 ≤ 6 := pow_bound u (m + 1) hu (by omega)
      have HQS : Hid (q / 1000 = u / 1000 ^ (m + 1)) := hqs
      clear hqs
      have hlast' : 1 ≤ q / 1000 := by omega
      clear hlast
      have HG : Hid (Groups u w.heap.size (m + 1) (wr.setCell ⟨w.heap.size, m, none⟩ (.int .u64 ((q : Int) % 1000)))) := by
        have e : ((q : Int) % 1000) = ((g3 u m : Nat) : Int) := by unfold g3; rw [← HQ.out]; omega
        rw [e]
        exact groups_step hG (show m < 8 by omega)
      go_wp2
      go_roundw
      case rel =>
        exact ⟨m + 1, q / 1000, hm6, by go_num, by omega, by go_num, HQS.out, Or.inr hlast', HG.out, hbw.setCell (Nat.le_refl _) _, by rw [World.size_setCell]; exact hsz⟩
      case measure => simp [intOf]; omega
end Go.Proofs.Qxb6605158aDoor.Th
