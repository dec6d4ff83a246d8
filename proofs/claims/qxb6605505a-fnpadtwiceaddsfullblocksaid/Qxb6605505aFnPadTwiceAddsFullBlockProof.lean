/-
  The proof of 'Rows.FnPadTwiceAddsFullBlockSaid' (seat b6605505a): the guide's frame (by program), the walk typed by hand over the contracts of Qxb6605505aCp, Pd, Lw.
-/
import Derived.Test.Qxb6605505aRows
import Derived.Test.Qxb6605505aLw
import Derived.WalkKit
import Derived.ProofKit
import Derived.OpenShut
import Derived.ShutString
import Derived.ChangeOld
import Derived.Below
namespace Go.Proofs.Qxb6605505a.fnPadTwiceAddsFullBlock
open Go.ChangeShapes Go.WideShapes Go.ChangeAt Go.RowKit
open Go.ChangeMaps (open_string shut_string)
set_option linter.unusedVariables false

theorem own : ownKnob Try.prog.godebug = none := by kernel_rfl
theorem laidOut : laidOutB Try.prog = true := by kernel_rfl

/-- WHAT THE WALK IS TOLD OF A SLICE OF INTEGERS THAT CAME IN: it is nil; or it leads to a row of 'cap' cells, the numbers 'zs' (the first 'len' are its elements, the rest its spare room), each fitting its kind. -/
def IsRow (k : IntKind) (w : World) (a : Option Addr) (len cap : Nat) (zs : List Int) : Prop :=
  (a = none ∧ len = 0 ∧ cap = 0 ∧ zs = []) ∨
  ∃ x, a = some x ∧ len ≤ cap ∧ cap ≤ maxLen ∧ zs.length = cap ∧ (∀ i, i < zs.length → w.cell? (x.add i) = some (.int k (zs.getD i 0))) ∧ ∀ n ∈ zs, (Lit.int k n).wf = true

theorem below_drews {B : Nat} {w w' : World} (h : Below B w w') (d : Nat) : Below B w (w'.drewN d) := ⟨h.os, h.tape, h.output, h.size, h.block⟩

theorem padN_full (len bs : Nat) (h : len % bs = 0) : padN len bs = bs := by unfold padN; omega

theorem padN_mod (len bs : Nat) (h : 1 ≤ bs) : (len + padN len bs) % bs = 0 := by
  rw [← total_eq len bs h]
  exact Nat.mul_mod_left _ _

set_option maxHeartbeats 1000000 in
theorem inRange (v : Value) (a : Option Addr) (cap : Nat) (l : List Int) (bs : Nat) (w : World) (hv : v = .slice a l.length cap) (hs : Src w v l) (hl : l.length ≤ 65536) (hb1 : 1 ≤ bs) (hb2 : bs ≤ 255) :
    Calls Try.prog 5 #[v, .int .i64 (bs : Int)] w fun e w' => e = .returned (.bool true) ∧ Below w.heap.size w w' := by
  subst hv
  obtain ⟨hp1, hp2⟩ := padN_le l.length bs hb1
  have HC : Hid (Calls Try.prog 7 #[.slice a l.length cap] w fun e w'' => ∃ v', e = .returned v' ∧ Own w'' w.heap.size v' l ∧ Below w.heap.size w w'') := copy_any _ l w hs (by omega)
  have HP : Hid (∀ (B : Nat) (v : Value) (w' : World), Own w' B v l → B ≤ w'.heap.size → Calls Try.prog 8 #[v, .int .i64 (bs : Int)] w' fun e w'' => ∃ v', e = .returned v' ∧ Own w'' B v' (l ++ List.replicate (padN l.length bs) (padN l.length bs : Int)) ∧ Below B w' w'') := fun B v w' h hB => pad_any B v l bs w' h (by omega) hb1 hb2 hB
  have hLm := padN_mod l.length bs hb1
  rw [← padded_len l (padN l.length bs) (padN l.length bs : Int)] at hLm
  have hL1 : 1 ≤ (l ++ List.replicate (padN l.length bs) (padN l.length bs : Int)).length := by rw [padded_len]; omega
  have hL2 : (l ++ List.replicate (padN l.length bs) (padN l.length bs : Int)).length ≤ 66000 := by rw [padded_len]; omega
  generalize l ++ List.replicate (padN l.length bs) (padN l.length bs : Int) = L at HP hLm hL1 hL2
  have HC2 : Hid (∀ (v : Value) (w' : World), Src w' v L → Calls Try.prog 7 #[v] w' fun e w'' => ∃ v', e = .returned v' ∧ Own w'' w'.heap.size v' L ∧ Below w'.heap.size w' w'') := fun v w' h => copy_any v L w' h (by omega)
  have HP2 : Hid (∀ (B : Nat) (v : Value) (w' : World), Own w' B v L → B ≤ w'.heap.size → Calls Try.prog 8 #[v, .int .i64 (bs : Int)] w' fun e w'' => ∃ v', e = .returned v' ∧ Own w'' B v' (L ++ List.replicate bs (bs : Int)) ∧ Below B w' w'') := by
    intro B v w' h hB
    have := pad_any B v L bs w' h (by omega) hb1 hb2 hB
    rw [padN_full L.length bs hLm] at this
    exact this
  clear hs hp1 hp2 hLm
  go_enter Try.func5, Try.ntmps5
  go_wp2_with (go_at_call 10; refine (bytes10_yes _ _ _ _ _ (by omega)).mono ?_; rintro e w ⟨rfl, rfl⟩)
  refine HC.out.mono ?_
  rintro e w1 ⟨v1, rfl, hown1, hbw1⟩
  go_wp2_with fail
  refine (HP.out w.heap.size v1 w1 hown1 hbw1.size).mono ?_
  rintro e w2 ⟨v2, rfl, hown2, hbw2⟩
  have hs2 := hown2.src
  go_wp2_with fail
  refine (HC2.out v2 w2 hs2).mono ?_
  rintro e w3 ⟨v3, rfl, hown3, hbw3⟩
  go_wp2_with fail
  refine (HC2.out v2 w3 (hs2.later hbw3)).mono ?_
  rintro e w4 ⟨v4, rfl, hown4, hbw4⟩
  go_wp2_with fail
  refine (HP2.out w3.heap.size v4 w4 hown4 hbw4.size).mono ?_
  rintro e w5 ⟨v5, rfl, hown5, hbw5⟩
  have hsrc3 := hown3.src.later (hbw4.trans hbw5)
  have HB : Hid (Below w.heap.size w w5) := by
    have s1 := hbw1.size
    have s2 := hbw2.size
    have s3 := hbw3.size
    exact (((hbw1.trans hbw2).trans (hbw3.mono (by omega))).trans (hbw4.mono (by omega))).trans (hbw5.mono (by omega))
  obtain ⟨b5, o5, c5, rfl, hc5⟩ := hown5.src.pos (by simp; omega)
  obtain ⟨b3, o3, c3, rfl, hc3⟩ := hsrc3.pos (by omega)
  rw [padded_len]
  have HC5 : Hid (∀ j, j < L.length + bs → w5.cell? ⟨b5, o5 + j, none⟩ = some (.int .u8 ((L ++ List.replicate bs (bs : Int)).getD j 0))) := by rw [← padded_len L bs (bs : Int)]; exact hc5
  have HC3 : Hid (∀ j, j < L.length → w5.cell? ⟨b3, o3 + j, none⟩ = some (.int .u8 (L.getD j 0))) := hc3
  clear hc5 hc3 hown1 hown2 hown3 hown4 hown5 hbw1 hbw2 hbw3 hbw4 hbw5 HC HP HC2 HP2 hs2 hsrc3
  have hne : (((L.length : Int) + (bs : Int)) != ((L.length : Int) + (bs : Int))) = false := by simp
  go_wp2
  clear hne
  go_loopw [8] (fun i wr => ∃ k d : Nat, k ≤ L.length ∧ i = .int .i64 k ∧ wr = w5.drewN d) (fun i _ => L.length - (intOf i).toNat)
  case atStart => exact ⟨0, 0, Nat.zero_le _, rfl, rfl⟩
  case round =>
    obtain ⟨k, d, hk, rfl, rfl⟩ := hrel
    by_cases hlt : k < L.length
    · have hcg := HC5.out k (by omega)
      rw [padded_lo L bs k bs hlt] at hcg
      have hco := HC3.out k hlt
      generalize L.getD k 0 = z at hcg hco
      have hzz : (z != z) = false := by simp
      have hi1 : (k : Int) < (L.length : Int) := by omega
      have hi2 : (k : Int) < (L.length : Int) + (bs : Int) := by omega
      go_wp2
      go_quiet (fail)
      go_wp2
      go_roundw
      case rel => exact ⟨k + 1, _, by omega, by go_num, rfl⟩
      case measure => simp [intOf]; omega
    · go_wp2
      go_loopw [9] (fun i wr => ∃ k d : Nat, L.length ≤ k ∧ k ≤ L.length + bs ∧ i = .int .i64 k ∧ wr = w5.drewN d) (fun i _ => L.length + bs - (intOf i).toNat)
      case atStart => exact ⟨L.length, d, Nat.le_refl _, by omega, rfl, rfl⟩
      case round =>
        obtain ⟨k, d, hk1, hk2, rfl, rfl⟩ := hrel
        by_cases hlt2 : k < L.length + bs
        · have hcg := HC5.out k hlt2
          rw [padded_hi L bs k bs hk1 hlt2] at hcg
          go_wp2
          go_roundw
          case rel => exact ⟨k + 1, _, by omega, by omega, by go_num, rfl⟩
          case measure => simp [intOf]; omega
        · go_wp2
          go_ret
          exact ⟨rfl, below_drews HB.out d⟩

set_option maxHeartbeats 400000 in
theorem early (a : Option Addr) (len cap : Nat) (bs : Int) (w : World) (hmax : len ≤ maxLen) (h : 65536 < len ∨ bs < 1 ∨ 255 < bs) :
    Calls Try.prog 5 #[.slice a len cap, .int .i64 bs] w fun e w' => e = .returned (.bool true) ∧ Below w.heap.size w w' := by
  unfold maxLen at hmax
  by_cases h1 : len ≤ 1048576
  · by_cases h2 : 65536 < len
    · go_enter Try.func5, Try.ntmps5
      go_wp2_with (go_at_call 10; refine (bytes10_yes _ _ _ _ _ h1).mono ?_; rintro e w ⟨rfl, rfl⟩)
      go_ret
      exact ⟨rfl, Below.refl _ _⟩
    · have h3 : bs < 1 ∨ 255 < bs := by omega
      clear h
      by_cases h4 : bs < 1
      · clear h3
        go_enter Try.func5, Try.ntmps5
        go_wp2_with (go_at_call 10; refine (bytes10_yes _ _ _ _ _ h1).mono ?_; rintro e w ⟨rfl, rfl⟩)
        go_ret
        exact ⟨rfl, Below.refl _ _⟩
      · have h5 : 255 < bs := by omega
        clear h3
        go_enter Try.func5, Try.ntmps5
        go_wp2_with (go_at_call 10; refine (bytes10_yes _ _ _ _ _ h1).mono ?_; rintro e w ⟨rfl, rfl⟩)
        go_ret
        exact ⟨rfl, Below.refl _ _⟩
  · clear h
    go_enter Try.func5, Try.ntmps5
    go_wp2_with (go_at_call 10; refine (bytes10_no _ _ _ _ _ (by omega)).mono ?_; rintro e w ⟨rfl, rfl⟩)
    go_ret
    exact ⟨rfl, Below.refl _ _⟩

/-! ### STEP 1: THE WALK: the Go text returns true, AND WRITES NOTHING THAT WAS THERE: 'Below w.heap.size w w'' (Derived/Below.lean: '.refl', '.alloc', '.drew', '.setCell' at a new block, '.trans'). Open each 'IsRow' by 'rcases' AHEAD of 'go_enter'; part every test ahead of the walk. -/
theorem walk (a0 : Option Addr) (len0 cap0 : Nat) (z0 : List Int) (a1 : Int) (w : World) (w0 : IsRow .u8 w a0 len0 cap0 z0) (w1 : (Lit.int .i64 a1).wf = true) :
    Calls Try.prog 5 #[.slice a0 len0 cap0, .int .i64 a1] w fun e w' => e = .returned (.bool true) ∧ Below w.heap.size w w' := by
  obtain ⟨hsrc, hlen, hmax⟩ := src_of w0
  by_cases h : 65536 < len0 ∨ a1 < 1 ∨ 255 < a1
  · exact early a0 len0 cap0 a1 w hmax h
  · obtain ⟨bs, rfl⟩ : ∃ bs : Nat, a1 = (bs : Int) := ⟨a1.toNat, by omega⟩
    exact inRange _ a0 cap0 (z0.take len0) bs w (by rw [hlen]) hsrc (by rw [hlen]; omega) (by omega) (by omega)

/-! ### THE ROW's STEP: WRITTEN OUT: LEAVE IT -/
set_option maxRecDepth 100000 in
theorem lifted (os : Os) (started : os.Started) (H : Type) (enc : TypeId × Value → H) :
    ReturnsInHanded {} Try.checked os 5 .any (Rows.fnPadTwiceAddsFullBlockSpec.pre6 enc Try.prog Try.f5 Rows.fnPadTwiceAddsFullBlockRow.domain false) (Rows.fnPadTwiceAddsFullBlockSpec.post enc Try.prog Try.f5 false true false false) := by
  refine returnsInHanded_of_change (C := Try.checked) own started (by kernel_rfl) Try.func5
    (ChangeSpec.witness6 (enc := enc) (C := Try.checked) false ⟨#[], #[.slice none 0 0, .int .i64 0], []⟩ 8 (by kernel_rfl) (by kernel_rfl) (by kernel_rfl) (by kernel_rfl)) ?_
  intro W base args ds gs before hval0 hW hcnd _
  have hval : ∀ (j : Nat) t v, Try.f5.params[j]? = some t → args[j]? = some v → Value.okWide Try.prog W .any base t v := hval0
  have hW' := hW
  obtain ⟨p, q, hA0, hV, rfl, hfz, hnd⟩ := hW
  have hA : DataW.TrodAll enc Try.prog W 0 (fun _ => true) true Try.f5.params.toList args.toList ds p := hA0
  rw [Try.params5] at hA hval
  obtain ⟨v0, vs0, d0, ds0, p0, q0, hargs, rfl, rfl, h0, r0⟩ := trodAll_cons hA
  obtain ⟨v1, vs1, d1, ds1, p1, q1, rfl, rfl, rfl, h1, r1⟩ := trodAll_cons r0
  obtain ⟨rfl, rfl, rfl⟩ := trodAll_nil r1
  obtain rfl : args = #[v0, v1] := by cases args; simp_all
  obtain ⟨rfl, rfl⟩ := trodVars_none hV
  obtain ⟨a0, len0, cap0, rfl⟩ := okWide_slice Try.underlying22 (hval 0 22 v0 rfl rfl)
  have k0 := h0
  have lt0 : ∀ x ∈ p0, x.block < W.heap.size := by obtain ⟨m, hm⟩ := k0; exact DataW.trod_lt m _ _ _ hm
  obtain ⟨z0, w0⟩ : ∃ zs, IsRow .u8 W a0 len0 cap0 zs := by
    obtain ⟨fuel, hf⟩ := h0
    rcases open_ints Try.underlying22 Try.underlying5 (by kernel_rfl) hf with ⟨hcs, _⟩ | ⟨x, l, c, zs, hcs, _, hl, hm, hz, _, hcell, hwz⟩
    · simp [Value.cells] at hcs
      obtain ⟨rfl, rfl, rfl⟩ := hcs
      exact ⟨[], .inl ⟨rfl, rfl, rfl, rfl⟩⟩
    · simp [Value.cells] at hcs
      obtain ⟨rfl, rfl, rfl⟩ := hcs
      exact ⟨zs, .inr ⟨_, rfl, hl, hm, by simpa using hz, hcell, hwz⟩⟩
  obtain ⟨a1, rfl, rfl, rfl, w1⟩ := open_int Try.underlying3 (hval 1 3 v1 rfl rfl) h1
  clear hA0 hval0
  refine (walk a0 len0 cap0 z0 a1 W w0 w1).mono fun e W' ⟨he, bel⟩ => ?_
  subst he
  exact ⟨_, rfl, _, _, _, [], _, [], hW', trodAll_mk1 (shut_bool Try.underlying4 _), (trodAll_cons_mk (Below.trod laidOut (by kernel_rfl) (of_decide_eq_true (by kernel_rfl)) k0 bel lt0) (trodAll_cons_mk (shut_int Try.underlying3 w1) trodAll_mk0)), rfl, bel.frame _, fun h => by cases h⟩

theorem over : Rows.fnPadTwiceAddsFullBlockRow.holds Try.pinned (OpenSpec.ofChange Rows.fnPadTwiceAddsFullBlockSpec) :=
  OpenClaim.holds_of_wide 5 Try.f5 rfl rfl rfl rfl rfl rfl rfl ⟨rfl, rfl, rfl, rfl, rfl⟩ rfl rfl rfl rfl rfl (by kernel_rfl) Try.func5 (by kernel_rfl)
    (of_decide_eq_true (by kernel_rfl)) (by unfold Func.isWrapper; first | (rw [if_pos (by decide +kernel)]; kernel_rfl) | (rw [if_neg (by decide +kernel)]; exact ⟨rfl, rfl⟩))
    (fun os started H enc _ => lifted os started H enc)

/-- ████ THE STATEMENT ████ -/
theorem proved : Rows.FnPadTwiceAddsFullBlockSaid := over
end Go.Proofs.Qxb6605505a.fnPadTwiceAddsFullBlock
