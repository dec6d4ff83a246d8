/-
  Seat b6605158aD: the proof of Rows.FnGroupedDropsToDecimalCardSaid: the walk, the row, the tied card.
-/
import Derived.Test.Qxb6605158aDoorFrame
import Derived.Test.Qxb6605158aDoorDc
import Derived.SevenTiedAt
namespace Go.Proofs.Qxb6605158aDoor.drops
open Go.ChangeShapes Go.WideShapes Go.ChangeAt Go.RowKit
open Plain Grp Th Fr Sd Dc

set_option maxHeartbeats 400000 in
theorem walk (n : Int) (h0 : -9223372036854775808 ≤ n) (h1 : n ≤ 9223372036854775807) (w : World) (htab : Lib.TabIs Tryd.prog w "internal/strconv.uint64pow10" .u64 Lib.pow10Tab) :
    Calls Tryd.prog 4 #[.int .i64 n] w fun e w' => e = .returned (.bool true) ∧ Below w.heap.size w w' := by
  have hlen : (⟨(grouped (Lib.itoa n)).toArray⟩ : ByteArray).size ≤ 100 := by
    have h2 := Lib.itoa_length_le n h0 h1
    have h3 := grouped_length (Lib.itoa n)
    have h4 : (⟨(grouped (Lib.itoa n)).toArray⟩ : ByteArray).size = (grouped (Lib.itoa n)).length := by simp [ByteArray.size]
    omega
  have HZ : Hid (Calls Tryd.prog 5 #[.int .i64 n] w fun e w' => e = .returned (.string ⟨(grouped (Lib.itoa n)).toArray⟩) ∧ Below w.heap.size w w') := zz_any n h0 h1 w htab
  have HP : Hid (∀ w : World, Calls Tryd.prog 7 #[.string ⟨(grouped (Lib.itoa n)).toArray⟩] w fun e w' => e = .returned (.bool true) ∧ w' = w) :=
    fun w => placed_any _ hlen w (fun i h hc => placed_grouped n _ rfl i h hc)
  have HS : Hid (∀ w : World, Calls Tryd.prog 8 #[.string ⟨(grouped (Lib.itoa n)).toArray⟩] w fun e w' => e = .returned (.string ⟨(Lib.itoa n).toArray⟩) ∧ Below w.heap.size w w') := by
    intro w
    have := strip_any ⟨(grouped (Lib.itoa n)).toArray⟩ hlen w
    have e : keep (⟨(grouped (Lib.itoa n)).toArray⟩ : ByteArray).data.toList = Lib.itoa n := grouped_strip n
    rw [e] at this
    exact this
  have HD : Hid (∀ w : World, Calls Tryd.prog 9 #[.int .i64 n] w fun e w' => e = .returned (.string ⟨(Lib.itoa n).toArray⟩) ∧ Below w.heap.size w w') := fun w => decimal_any n h0 h1 w
  clear htab hlen
  generalize (⟨(grouped (Lib.itoa n)).toArray⟩ : ByteArray) = s at HZ HP HS
  generalize (⟨(Lib.itoa n).toArray⟩ : ByteArray) = t at HS HD
  go_enter Tryd.func4, Tryd.ntmps4
  go_wp2_with (first | (go_at_call 5; refine HZ.out.mono ?_; rintro e w1 ⟨rfl, hb1⟩) | (go_at_call 7; refine (HP.out _).mono ?_; rintro e w2 ⟨rfl, rfl⟩) | (go_at_call 8; refine (HS.out _).mono ?_; rintro e w3 ⟨rfl, hb3⟩) | (go_at_call 9; refine (HD.out _).mono ?_; rintro e w4 ⟨rfl, hb4⟩))
  go_ret
  exact ⟨by simp, (hb1.trans (hb3.mono hb1.size)).trans (hb4.mono (Nat.le_trans hb1.size hb3.size))⟩

set_option maxRecDepth 100000 in
theorem lifted (os : Os) (started : os.Started) (H : Type) (enc : TypeId × Value → H) :
    ReturnsInHanded {} Tryd.checked os 4 .any (fun w args => (Rows.fnGroupedDropsToDecimalSpec.pre enc Tryd.prog Tryd.f4 [] false w args ∧ laidMetH Tryd.prog laid3 w) ∧ sizedMet enc Tryd.prog Tryd.f4 (OpenSpec.ofChange Rows.fnGroupedDropsToDecimalSpec) false w args)
      (Rows.fnGroupedDropsToDecimalSpec.post enc Tryd.prog Tryd.f4 false true false false) := by
  refine returnsInHanded_of_change_and (C := Tryd.checked) (X := fun w _ => laidMetH Tryd.prog laid3 w) (fun _ _ _ hh h => h.of_heap hh) own started (by kernel_rfl) Tryd.func4
    (ChangeSpec.witness_shaped (enc := enc) (C := Tryd.checked) (os := os) (X := fun w _ => laidMetH Tryd.prog laid3 w) false (World.doorLaid Tryd.prog 24 os) #[.int .i64 0] 8 rfl (World.shaped_of_RefB (by kernel_rfl) (by kernel_rfl)) (by kernel_rfl) (by kernel_rfl) (by kernel_rfl) (door_met os _)) ?_
  intro W base args ds gs before hval0 hW _ _ hL _
  have hval : ∀ (j : Nat) t v, Tryd.f4.params[j]? = some t → args[j]? = some v → Value.okWide Tryd.prog W .any base t v := hval0
  have hW' := hW
  obtain ⟨p, q, hA0, hV, rfl, hfz, hnd⟩ := hW
  have hA : DataW.TrodAll enc Tryd.prog W 0 (fun _ => true) true Tryd.f4.params.toList args.toList ds p := hA0
  rw [Tryd.params4] at hA hval
  obtain ⟨v0, d0, rfl, rfl, h0⟩ := trodAll_one hA
  obtain ⟨rfl, rfl⟩ := trodVars_none hV
  obtain ⟨n, rfl, rfl, rfl, wn⟩ := open_int Tryd.underlying3 (hval 0 3 v0 rfl rfl) h0
  have htab := tab_of_laid hL
  clear hA0 hval0
  have hbd : -9223372036854775808 ≤ n ∧ n ≤ 9223372036854775807 := bounds_i64 wn
  refine (walk n hbd.1 hbd.2 W htab).mono fun e W' ⟨he, bel⟩ => ?_
  subst he
  exact ⟨_, rfl, _, _, _, [], _, [], hW', trodAll_mk1 (shut_bool Tryd.underlying4 _), trodAll_mk1 (shut_int Tryd.underlying3 wn), rfl, bel.frame _, fun h => by cases h⟩

theorem row_holds : Rows.FnGroupedDropsToDecimalSaid :=
  OpenClaim.holds_of_wide 4 Tryd.f4 rfl rfl rfl rfl rfl rfl rfl ⟨rfl, rfl, rfl, rfl, rfl⟩ rfl rfl rfl rfl rfl (by kernel_rfl) Tryd.func4 (by kernel_rfl)
    (of_decide_eq_true (by kernel_rfl)) (by unfold Func.isWrapper; first | (rw [if_pos (by decide +kernel)]; kernel_rfl) | (rw [if_neg (by decide +kernel)]; exact ⟨rfl, rfl⟩))
    (fun os started H enc _ => lifted os started H enc)

theorem proved : Rows.FnGroupedDropsToDecimalCardSaid :=
  Claim7.holds_tied_plain_at .later [] [.data, .data, .data] true (true, "25a965198bb5fb201495977df38188fa17584c0d109f854834325d6c7a8a46d0") false
    row_holds (fun _ h => by cases h) (by kernel_rfl) (fun _ h => by cases h) fnGroupedDropsToDecimal_row_tie rfl ⟨rfl, rfl⟩ (by kernel_rfl) rfl
    (fun f fn hf hfn => by
      obtain rfl : f = 4 := Option.some.inj ((show Tryd.prog.funcNamed Tryd.f4.name = some 4 by kernel_rfl).symm.trans hf) |>.symm
      obtain rfl : fn = Tryd.f4 := (Option.some.inj (Tryd.func4.symm.trans hfn)).symm
      exact ⟨by kernel_rfl, fun j t ht => by
        rw [Tryd.params4] at ht
        have hm : t ∈ [3] := by simpa using Array.mem_of_getElem? ht
        have hall : ([3].all fun u => !Tryd.prog.wantsStandIn u) = true := by kernel_rfl
        exact (show Tryd.prog.wantsStandIn t = false by simpa using List.all_eq_true.1 hall t hm)⟩)
    (by kernel_rfl)
end Go.Proofs.Qxb6605158aDoor.drops
