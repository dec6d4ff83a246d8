/-
  The proof of 'Rows.FnTempTargetRoundTripSaid' (seat b6605351a): the guide's frame (by program), the walk typed by hand over the contracts of Qxb6605351aTt.lean.
-/
import Derived.Test.Qxb6605351aRows
import Derived.Test.Qxb6605351aTt
import Derived.WalkKit
import Derived.ProofKit
import Derived.OpenShut
import Derived.ShutString
namespace Go.Proofs.Qxb6605351a.fnTempTargetRoundTrip
open Go.ChangeShapes Go.WideShapes Go.ChangeAt Go.RowKit
open Go.ChangeMaps (open_string shut_string)
open Tt
set_option linter.unusedVariables false      -- a walk need not use every 'w<i>' (that an integer argument fits its kind)

theorem own : ownKnob Try.prog.godebug = none := by kernel_rfl

theorem one_dot : ({ data := #[46] } : ByteArray).size = 1 := rfl

/-! ### STEP 1: THE WALK: the Go text returns true. 'Grown w w'': the world has at most new blocks (Derived/RowKit3.lean). Part the cases AHEAD of 'go_enter' where a test parts the walk; take each callee by a contract of your own. -/
theorem walk (a0 : ByteArray) (a1 : ByteArray) (w0 : a0.size ≤ maxLen) (w1 : a1.size ≤ maxLen) (w : World) :
    Calls Try.prog 3 #[.string a0, .string a1] w fun e w' => e = .returned (.bool true) ∧ Grown w w' := by
  by_cases hsm : a0.size + a1.size ≤ 1048576
  · go_enter Try.func3, Try.ntmps3
    go_wp2_with (go_at_call 5; refine (bytes_yes _ _ _ hsm).mono ?_; rintro e w' ⟨rfl, rfl⟩)
    all_goals first | (go_ret; exact ⟨rfl, Grown.refl _⟩) | skip
    have hne : a0.toList.isEmpty = false ∧ a1.toList.isEmpty = false := by assumption
    obtain ⟨hp0, hp1⟩ : 0 < a0.size ∧ 0 < a1.size := ⟨pos_of _ hne.1, pos_of _ hne.2⟩
    clear hne
    go_loop [5] (fun i => ∃ k : Nat, k ≤ a1.size ∧ i = .int .i64 k ∧ ∀ j (h : j < a1.size), j < k → ((a1[j].toNat : Int) == 46) = false) (fun i => a1.size - (intOf i).toNat)
    case atStart => exact ⟨0, Nat.zero_le _, rfl, fun _ _ h => absurd h (Nat.not_lt_zero _)⟩
    case round =>
      obtain ⟨k, hk, rfl, hno⟩ := hrel
      have HN : Hid (∀ j (h : j < a1.size), j < k → ((a1[j].toNat : Int) == 46) = false) := hno
      clear hno
      by_cases hlt : k < a1.size
      · go_wp2
        · go_ret
          exact ⟨rfl, Grown.refl _⟩
        · go_round
          case rel =>
            refine ⟨k + 1, by omega, by go_num, fun j h hj => ?_⟩
            by_cases e : j = k
            · subst e; assumption
            · exact HN.out j h (by omega)
          case measure => simp [intOf]; omega
      · obtain rfl : k = a1.size := by omega
        have HT : Hid (Calls Try.prog 6 #[.string (({ data := #[46] } : ByteArray) ++ a0 ++ { data := #[46] } ++ a1)] w' fun e w'' => e = .returned (.tuple #[.string a0, .bool true]) ∧ w'' = w') := by
          refine temp_list _ a0 a1.data.toList w' (by simp) ?_ hp0 (by simpa using hp1) (by simp [maxLen, one_dot]; omega)
          intro x hx
          obtain ⟨j, hj, e⟩ := List.getElem_of_mem hx
          have hj' : j < a1.size := by simpa using hj
          have := HN.out j hj' hj'
          rw [get_list a1 j hj' hj, e] at this
          intro hh
          rw [hh] at this
          cases this
        go_wp2_with (go_at_call 6; refine HT.out.mono ?_; rintro e w'' ⟨rfl, rfl⟩)
        go_ret
        exact ⟨by simp, Grown.refl _⟩
  · go_enter Try.func3, Try.ntmps3
    go_wp2_with (go_at_call 5; refine (bytes_no _ _ _ w0 w1 (by omega)).mono ?_; rintro e w' ⟨rfl, rfl⟩)
    go_ret
    exact ⟨rfl, Grown.refl _⟩

/-! ### THE ROW's STEP: WRITTEN OUT: LEAVE IT -/
set_option maxRecDepth 100000 in
theorem lifted (os : Os) (started : os.Started) (H : Type) (enc : TypeId × Value → H) :
    ReturnsInHanded {} Try.checked os 3 .any (Rows.fnTempTargetRoundTripSpec.pre6 enc Try.prog Try.f3 Rows.fnTempTargetRoundTripRow.domain false) (Rows.fnTempTargetRoundTripSpec.post enc Try.prog Try.f3 false true false false) := by
  refine returnsInHanded_of_change (C := Try.checked) own started (by kernel_rfl) Try.func3
    (ChangeSpec.witness6 (enc := enc) (C := Try.checked) false ⟨#[], #[.string ByteArray.empty, .string ByteArray.empty], []⟩ 8 (by kernel_rfl) (by kernel_rfl) (by kernel_rfl) (by kernel_rfl)) ?_
  intro W base args ds gs before hval0 hW hcnd _
  have hval : ∀ (j : Nat) t v, Try.f3.params[j]? = some t → args[j]? = some v → Value.okWide Try.prog W .any base t v := hval0
  have hW' := hW
  obtain ⟨p, q, hA0, hV, rfl, hfz, hnd⟩ := hW
  have hA : DataW.TrodAll enc Try.prog W 0 (fun _ => true) true Try.f3.params.toList args.toList ds p := hA0
  rw [Try.params3] at hA hval
  obtain ⟨v0, vs0, d0, ds0, p0, q0, hargs, rfl, rfl, h0, r0⟩ := trodAll_cons hA
  obtain ⟨v1, vs1, d1, ds1, p1, q1, rfl, rfl, rfl, h1, r1⟩ := trodAll_cons r0
  obtain ⟨rfl, rfl, rfl⟩ := trodAll_nil r1
  obtain rfl : args = #[v0, v1] := by cases args; simp_all
  obtain ⟨rfl, rfl⟩ := trodVars_none hV
  obtain ⟨a0, rfl, rfl, rfl, w0⟩ := open_string Try.underlying9 (hval 0 9 v0 rfl rfl) h0
  obtain ⟨a1, rfl, rfl, rfl, w1⟩ := open_string Try.underlying9 (hval 1 9 v1 rfl rfl) h1
  clear hA0 hval0
  simp only [List.append_nil] at hW'
  refine (walk a0 a1 w0 w1 W).mono fun e W' ⟨he, hg⟩ => ?_
  subst he
  exact ⟨_, rfl, post_of_same (pa := []) (pv := []) hW' (fun _ _ _ => (trodAll_cons_mk (shut_bool Try.underlying4 _) trodAll_mk0)) (fun sp _ => (trodAll_cons_mk (shut_string Try.underlying9 w0) (trodAll_cons_mk (shut_string Try.underlying9 w1) trodAll_mk0))) (fun _ _ => rfl) rfl
    (hg.frame _) hg.2.1 (ok_one (by kernel_rfl) rfl (okWide_bool_mk Try.underlying4 _))⟩

theorem over : Rows.fnTempTargetRoundTripRow.holds Try.pinned (OpenSpec.ofChange Rows.fnTempTargetRoundTripSpec) :=
  OpenClaim.holds_of_wide 3 Try.f3 rfl rfl rfl rfl rfl rfl rfl ⟨rfl, rfl, rfl, rfl, rfl⟩ rfl rfl rfl rfl rfl (by kernel_rfl) Try.func3 (by kernel_rfl)
    (of_decide_eq_true (by kernel_rfl)) (by unfold Func.isWrapper; first | (rw [if_pos (by decide +kernel)]; kernel_rfl) | (rw [if_neg (by decide +kernel)]; exact ⟨rfl, rfl⟩))
    (fun os started H enc _ => lifted os started H enc)

/-- ████ THE STATEMENT ████ -/
theorem proved : Rows.FnTempTargetRoundTripSaid :=
  over
end Go.Proofs.Qxb6605351a.fnTempTargetRoundTrip
