/-
  The proof of 'Rows.FnTempTargetVisibleRefusedAndWrappedSaid' (seat b6605351a): the guide's frame (by program), the walk typed by hand over the contracts of Qxb6605351aTt.lean.
-/
import Derived.Test.Qxb6605351aRows
import Derived.Test.Qxb6605351aTt
import Derived.WalkKit
import Derived.ProofKit
import Derived.OpenShut
import Derived.ShutString
namespace Go.Proofs.Qxb6605351a.fnTempTargetVisibleRefusedAndWrapped
open Go.ChangeShapes Go.WideShapes Go.ChangeAt Go.RowKit
open Go.ChangeMaps (open_string shut_string)
open Tt
set_option linter.unusedVariables false      -- a walk need not use every 'w<i>' (that an integer argument fits its kind)

theorem own : ownKnob Try.prog.godebug = none := by kernel_rfl

theorem one_dot : ({ data := #[46] } : ByteArray).size = 1 := rfl
theorem four_dot : ({ data := #[46, 116, 109, 112] } : ByteArray).size = 4 := rfl
theorem not_dotted (a : ByteArray) (h : 0 < a.size) (hd : ((a[0].toNat : Int) == 46) = false) : dotted a = false := by
  unfold dotted
  rw [get_list a 0 h (by rw [← size_list]; exact h)] at hd
  rw [ByteArray.toList_eq, ex_list]
  cases e : a.data.toList with
  | nil => rfl
  | cons x l =>
    simp only [e, List.getElem_cons_zero] at hd
    simp only [List.take_succ_cons, List.take_zero, List.drop_zero]
    rw [Bool.eq_false_iff]
    intro hh
    simp at hh
    subst hh
    cases hd

/-! ### STEP 1: THE WALK: the Go text returns true. 'Grown w w'': the world has at most new blocks (Derived/RowKit3.lean). Part the cases AHEAD of 'go_enter' where a test parts the walk; take each callee by a contract of your own. -/
theorem walk (a0 : ByteArray) (w0 : a0.size ≤ maxLen) (w : World) :
    Calls Try.prog 4 #[.string a0] w fun e w' => e = .returned (.bool true) ∧ Grown w w' := by
  by_cases hsm : a0.size ≤ 1048576
  · by_cases hp0 : 0 < a0.size
    · by_cases hdot : ((a0[0].toNat : Int) == 46) = true
      · go_enter Try.func4, Try.ntmps4
        go_wp2_with (go_at_call 7; refine (bytes1_yes _ _ hsm).mono ?_; rintro e w' ⟨rfl, rfl⟩)
        all_goals first | (go_ret; exact ⟨rfl, Grown.refl _⟩) | skip
      · have hdot' : ((a0[0].toNat : Int) == 46) = false := by simpa using hdot
        clear hdot
        have HT : Hid (∀ w' : World, Calls Try.prog 6 #[.string (({ data := #[46] } : ByteArray) ++ a0 ++ { data := #[46, 116, 109, 112] })] w' fun e w'' => e = .returned (.tuple #[.string a0, .bool true]) ∧ w'' = w') := by
          intro w'
          refine temp_list _ a0 [116, 109, 112] w' (by simp) (by decide) hp0 (by decide) (by simp [maxLen, one_dot, four_dot]; omega)
        have HN : Hid (∀ w' : World, Calls Try.prog 6 #[.string a0] w' fun e w'' => e = .returned (.tuple #[.string ⟨#[]⟩, .bool false]) ∧ w'' = w') :=
          fun w' => temp_no a0 w' w0 (not_dotted a0 hp0 hdot')
        go_enter Try.func4, Try.ntmps4
        go_wp2_with (go_at_call 7; refine (bytes1_yes _ _ hsm).mono ?_; rintro e w' ⟨rfl, rfl⟩)
        all_goals first | (go_ret; exact ⟨rfl, Grown.refl _⟩) | skip
        go_wp2_with fail
        refine (HN.out _).mono ?_
        rintro e w'' ⟨rfl, rfl⟩
        go_wp2_with fail
        refine (HT.out _).mono ?_
        rintro e w3 ⟨rfl, rfl⟩
        go_wp2
        go_ret
        exact ⟨by simp, Grown.refl _⟩
    · have he : a0.toList = [] := by
        have : a0.size = 0 := by omega
        rw [ByteArray.size_eq_zero_iff] at this
        rw [this, ByteArray.toList_eq]
        rfl
      go_enter Try.func4, Try.ntmps4
      go_wp2_with (go_at_call 7; refine (bytes1_yes _ _ hsm).mono ?_; rintro e w' ⟨rfl, rfl⟩)
      all_goals first | (go_ret; exact ⟨rfl, Grown.refl _⟩) | skip
  · go_enter Try.func4, Try.ntmps4
    go_wp2_with (go_at_call 7; refine (bytes1_no _ _ w0 (by omega)).mono ?_; rintro e w' ⟨rfl, rfl⟩)
    go_ret
    exact ⟨rfl, Grown.refl _⟩

/-! ### THE ROW's STEP: WRITTEN OUT: LEAVE IT -/
set_option maxRecDepth 100000 in
theorem lifted (os : Os) (started : os.Started) (H : Type) (enc : TypeId × Value → H) :
    ReturnsInHanded {} Try.checked os 4 .any (Rows.fnTempTargetVisibleRefusedAndWrappedSpec.pre6 enc Try.prog Try.f4 Rows.fnTempTargetVisibleRefusedAndWrappedRow.domain false) (Rows.fnTempTargetVisibleRefusedAndWrappedSpec.post enc Try.prog Try.f4 false true false false) := by
  refine returnsInHanded_of_change (C := Try.checked) own started (by kernel_rfl) Try.func4
    (ChangeSpec.witness6 (enc := enc) (C := Try.checked) false ⟨#[], #[.string ByteArray.empty], []⟩ 8 (by kernel_rfl) (by kernel_rfl) (by kernel_rfl) (by kernel_rfl)) ?_
  intro W base args ds gs before hval0 hW hcnd _
  have hval : ∀ (j : Nat) t v, Try.f4.params[j]? = some t → args[j]? = some v → Value.okWide Try.prog W .any base t v := hval0
  have hW' := hW
  obtain ⟨p, q, hA0, hV, rfl, hfz, hnd⟩ := hW
  have hA : DataW.TrodAll enc Try.prog W 0 (fun _ => true) true Try.f4.params.toList args.toList ds p := hA0
  rw [Try.params4] at hA hval
  obtain ⟨v0, vs0, d0, ds0, p0, q0, hargs, rfl, rfl, h0, r0⟩ := trodAll_cons hA
  obtain ⟨rfl, rfl, rfl⟩ := trodAll_nil r0
  obtain rfl : args = #[v0] := by cases args; simp_all
  obtain ⟨rfl, rfl⟩ := trodVars_none hV
  obtain ⟨a0, rfl, rfl, rfl, w0⟩ := open_string Try.underlying9 (hval 0 9 v0 rfl rfl) h0
  clear hA0 hval0
  simp only [List.append_nil] at hW'
  refine (walk a0 w0 W).mono fun e W' ⟨he, hg⟩ => ?_
  subst he
  exact ⟨_, rfl, post_of_same (pa := []) (pv := []) hW' (fun _ _ _ => (trodAll_cons_mk (shut_bool Try.underlying4 _) trodAll_mk0)) (fun sp _ => (trodAll_cons_mk (shut_string Try.underlying9 w0) trodAll_mk0)) (fun _ _ => rfl) rfl
    (hg.frame _) hg.2.1 (ok_one (by kernel_rfl) rfl (okWide_bool_mk Try.underlying4 _))⟩

theorem over : Rows.fnTempTargetVisibleRefusedAndWrappedRow.holds Try.pinned (OpenSpec.ofChange Rows.fnTempTargetVisibleRefusedAndWrappedSpec) :=
  OpenClaim.holds_of_wide 4 Try.f4 rfl rfl rfl rfl rfl rfl rfl ⟨rfl, rfl, rfl, rfl, rfl⟩ rfl rfl rfl rfl rfl (by kernel_rfl) Try.func4 (by kernel_rfl)
    (of_decide_eq_true (by kernel_rfl)) (by unfold Func.isWrapper; first | (rw [if_pos (by decide +kernel)]; kernel_rfl) | (rw [if_neg (by decide +kernel)]; exact ⟨rfl, rfl⟩))
    (fun os started H enc _ => lifted os started H enc)

/-- ████ THE STATEMENT ████ -/
theorem proved : Rows.FnTempTargetVisibleRefusedAndWrappedSaid :=
  over
end Go.Proofs.Qxb6605351a.fnTempTargetVisibleRefusedAndWrapped
