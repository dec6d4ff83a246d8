/-
  The proof of 'Rows.FnPadExactSaid' (seat b6605505a): the guide's frame (by program), the walk typed by hand over the contracts of Qxb6605505aCp, Pd, Lw.
-/
import Derived.Test.Qxb6605505aRows
import Derived.Test.Qxb6605505aLw
import Derived.WalkKit
import Derived.ProofKit
import Derived.OpenShut
import Derived.ShutString
import Derived.ChangeOld
import Derived.Below
namespace Go.Proofs.Qxb6605505a.fnPadExact
open Go.ChangeShapes Go.WideShapes Go.ChangeAt Go.RowKit
open Go.ChangeMaps (open_string shut_string)
set_option linter.unusedVariables false

theorem own : ownKnob Try.prog.godebug = none := by kernel_rfl
theorem laidOut : laidOutB Try.prog = true := by kernel_rfl

/-- WHAT THE WALK IS TOLD OF A SLICE OF INTEGERS THAT CAME IN: it is nil; or it leads to a row of 'cap' cells, the numbers 'zs' (the first 'len' are its elements, the rest its spare room), each fitting its kind. -/
def IsRow (k : IntKind) (w : World) (a : Option Addr) (len cap : Nat) (zs : List Int) : Prop :=
  (a = none ∧ len = 0 ∧ cap = 0 ∧ zs = []) ∨
  ∃ x, a = some x ∧ len ≤ cap ∧ cap ≤ maxLen ∧ zs.length = cap ∧ (∀ i, i < zs.length → w.cell? (x.add i) = some (.int k (zs.getD i 0))) ∧ ∀ n ∈ zs, (Lit.int k n).wf = true

theorem div_wrap (len bs : Nat) (h : len ≤ 65536) : wrap64 ((len : Int) / (bs : Int)) = ((len / bs : Nat) : Int) := by
  have h1 : len / bs ≤ len := Nat.div_le_self _ _
  have h2 : ((len : Int) / (bs : Int)) = ((len / bs : Nat) : Int) := by simp
  rw [h2]
  generalize len / bs = q at h1
  unfold wrap64
  omega

theorem below_drews {B : Nat} {w w' : World} (h : Below B w w') (d : Nat) : Below B w (w'.drewN d) := ⟨h.os, h.tape, h.output, h.size, h.block⟩

set_option maxHeartbeats 1000000 in
theorem inRange (v : Value) (a : Option Addr) (cap : Nat) (l : List Int) (bs : Nat) (w : World) (hv : v = .slice a l.length cap) (hs : Src w v l) (hl : l.length ≤ 65536) (hb1 : 1 ≤ bs) (hb2 : bs ≤ 255) :
    Calls Try.prog 3 #[v, .int .i64 (bs : Int)] w fun e w' => e = .returned (.bool true) ∧ Below w.heap.size w w' := by
  subst hv
  obtain ⟨hp1, hp2⟩ := padN_le l.length bs hb1
  have hdq : wrap64 ((l.length : Int) / (bs : Int)) = ((l.length / bs : Nat) : Int) := div_wrap l.length bs hl
  have hqb : l.length / bs ≤ 65536 := Nat.le_trans (Nat.div_le_self _ _) hl
  have hmq : wrap64 ((((l.length / bs : Nat) : Int) + 1) * (bs : Int)) = (l.length : Int) + ((padN l.length bs : Nat) : Int) := by
    have h1 := total_eq l.length bs hb1
    have h2 : (((l.length / bs : Nat) : Int) + 1) * (bs : Int) = (l.length : Int) + ((padN l.length bs : Nat) : Int) := by exact_mod_cast h1
    rw [h2]
    unfold wrap64
    omega
  have HC : Hid (∀ w' : World, Below w.heap.size w w' → Calls Try.prog 7 #[.slice a l.length cap] w' fun e w'' => ∃ v', e = .returned v' ∧ Own w'' w'.heap.size v' l ∧ Below w'.heap.size w' w'') := fun w' hb => copy_any _ l w' (hs.later hb) (by omega)
  have HP : Hid (∀ (B : Nat) (v : Value) (w' : World), Own w' B v l → B ≤ w'.heap.size → Calls Try.prog 8 #[v, .int .i64 (bs : Int)] w' fun e w'' => ∃ v', e = .returned v' ∧ Own w'' B v' (l ++ List.replicate (padN l.length bs) (padN l.length bs : Int)) ∧ Below B w' w'') := fun B v w' h hB => pad_any B v l bs w' h (by omega) hb1 hb2 hB
  generalize padN l.length bs = n at hp1 hp2 hmq HP
  generalize l.length / bs = q at hdq hqb hmq
  clear hs
  go_enter Try.func3, Try.ntmps3
  go_wp2_with (go_at_call 6; refine (bytes6_yes _ _ _ _ _ (by omega)).mono ?_; rintro e w ⟨rfl, rfl⟩)
  refine (HC.out _ (Below.refl _ _)).mono ?_
  rintro e w1 ⟨v1, rfl, hown1, hbw1⟩
  go_wp2_with fail
  refine (HC.out _ hbw1).mono ?_
  rintro e w2 ⟨v2, rfl, hown2, hbw2⟩
  go_wp2_with fail
  refine (HP.out w1.heap.size v2 w2 hown2 hbw2.size).mono ?_
  rintro e w3 ⟨v3, rfl, hown3, hbw3⟩
  have hsrc1 := hown1.src.later (hbw2.trans hbw3)
  have HB : Hid (Below w.heap.size w w3) := hbw1.trans ((hbw2.trans hbw3).mono hbw1.size)
  obtain ⟨b3, o3, c3, rfl, hc3⟩ := hown3.src.pos (by simp; omega)
  obtain ⟨a1, c1, rfl⟩ := hsrc1.form
  rw [padded_len]
  have HC3 : Hid (∀ j, j < l.length + n → w3.cell? ⟨b3, o3 + j, none⟩ = some (.int .u8 ((l ++ List.replicate n (n : Int)).getD j 0))) := by rw [← padded_len l n (n : Int)]; exact hc3
  clear hc3 hown1 hown2 hown3 hbw1 hbw2 hbw3 HC HP
  have HS1 : Hid (Src w3 (.slice a1 l.length c1) l) := hsrc1
  clear hsrc1
  go_wp2
  rw [hmq, show (l.length : Int) + (n : Int) - (l.length : Int) = (n : Int) by omega]
  clear hdq hqb hmq
  by_cases h0 : 0 < l.length
  · obtain ⟨b1, o1, c1', e1, hc1⟩ := HS1.out.pos h0
    injection e1 with ea _ ec
    subst ea ec
    have HC1 : Hid (∀ j, j < l.length → w3.cell? ⟨b1, o1 + j, none⟩ = some (.int .u8 (l.getD j 0))) := hc1
    clear hc1 HS1
    go_loopw [9] (fun i wr => ∃ k d : Nat, k ≤ l.length ∧ i = .int .i64 k ∧ wr = w3.drewN d) (fun i _ => l.length - (intOf i).toNat)
    case atStart => exact ⟨0, 0, Nat.zero_le _, rfl, rfl⟩
    case round =>
      obtain ⟨k, d, hk, rfl, rfl⟩ := hrel
      by_cases hlt : k < l.length
      · have hcg := HC3.out k (by omega)
        rw [padded_lo l n k n hlt] at hcg
        have hco := HC1.out k hlt
        generalize l.getD k 0 = z at hcg hco
        have hzz : (z != z) = false := by simp
        have hi1 : (k : Int) < (l.length : Int) := by omega
        have hi2 : (k : Int) < (l.length : Int) + (n : Int) := by omega
        go_wp2
        go_quiet (fail)
        go_wp2
        go_roundw
        case rel => exact ⟨k + 1, _, by omega, by go_num, rfl⟩
        case measure => simp [intOf]; omega
      · go_wp2
        go_loopw [10] (fun i wr => ∃ k d : Nat, l.length ≤ k ∧ k ≤ l.length + n ∧ i = .int .i64 k ∧ wr = w3.drewN d) (fun i _ => l.length + n - (intOf i).toNat)
        case atStart => exact ⟨l.length, d, Nat.le_refl _, by omega, rfl, rfl⟩
        case round =>
          obtain ⟨k, d, hk1, hk2, rfl, rfl⟩ := hrel
          by_cases hlt2 : k < l.length + n
          · have hcg := HC3.out k hlt2
            rw [padded_hi l n k n hk1 hlt2] at hcg
            go_wp2
            go_roundw
            case rel => exact ⟨k + 1, _, by omega, by omega, by go_num, rfl⟩
            case measure => simp [intOf]; omega
          · go_wp2
            go_ret
            exact ⟨rfl, below_drews HB.out d⟩
  · go_loopw [9] (fun i wr => i = .int .i64 0 ∧ ∃ d : Nat, wr = w3.drewN d) (fun i _ => 0)
    case atStart => exact ⟨rfl, 0, rfl⟩
    case round =>
      obtain ⟨rfl, d, rfl⟩ := hrel
      go_wp2
      go_loopw [10] (fun i wr => ∃ k d : Nat, l.length ≤ k ∧ k ≤ l.length + n ∧ i = .int .i64 k ∧ wr = w3.drewN d) (fun i _ => l.length + n - (intOf i).toNat)
      case atStart => exact ⟨l.length, d, Nat.le_refl _, by omega, rfl, rfl⟩
      case round =>
        obtain ⟨k, d, hk1, hk2, rfl, rfl⟩ := hrel
        by_cases hlt2 : k < l.length + n
        · have hcg := HC3.out k hlt2
          rw [padded_hi l n k n hk1 hlt2] at hcg
          go_wp2
          go_roundw
          case rel => exact ⟨k + 1, _, by omega, by omega, by go_num, rfl⟩
          case measure => simp [intOf]; omega
        · go_wp2
          go_ret
          exact ⟨rfl, below_drews HB.out d⟩

set_option maxHeartbeats 400000 in
theorem early (a : Option Addr) (len cap : Nat) (bs : Int) (w : World) (hmax : len ≤ maxLen) (h : 65536 < len ∨ bs < 1 ∨ 255 < bs) :
    Calls Try.prog 3 #[.slice a len cap, .int .i64 bs] w fun e w' => e = .returned (.bool true) ∧ Below w.heap.size w w' := by
  unfold maxLen at hmax
  by_cases h1 : len ≤ 1048576
  · by_cases h2 : 65536 < len
    · go_enter Try.func3, Try.ntmps3
      go_wp2_with (go_at_call 6; refine (bytes6_yes _ _ _ _ _ h1).mono ?_; rintro e w ⟨rfl, rfl⟩)
      go_ret
      exact ⟨rfl, Below.refl _ _⟩
    · have h3 : bs < 1 ∨ 255 < bs := by omega
      clear h
      by_cases h4 : bs < 1
      · clear h3
        go_enter Try.func3, Try.ntmps3
        go_wp2_with (go_at_call 6; refine (bytes6_yes _ _ _ _ _ h1).mono ?_; rintro e w ⟨rfl, rfl⟩)
        go_ret
        exact ⟨rfl, Below.refl _ _⟩
      · have h5 : 255 < bs := by omega
        clear h3
        go_enter Try.func3, Try.ntmps3
        go_wp2_with (go_at_call 6; refine (bytes6_yes _ _ _ _ _ h1).mono ?_; rintro e w ⟨rfl, rfl⟩)
        go_ret
        exact ⟨rfl, Below.refl _ _⟩
  · clear h
    go_enter Try.func3, Try.ntmps3
    go_wp2_with (go_at_call 6; refine (bytes6_no _ _ _ _ _ (by omega)).mono ?_; rintro e w ⟨rfl, rfl⟩)
    go_ret
    exact ⟨rfl, Below.refl _ _⟩

/-! ### STEP 1: THE WALK: the Go text returns true, AND WRITES NOTHING THAT WAS THERE: 'Below w.heap.size w w'' (Derived/Below.lean: '.refl', '.alloc', '.drew', '.setCell' at a new block, '.trans'). Open each 'IsRow' by 'rcases' AHEAD of 'go_enter'; part every test ahead of the walk. -/
theorem walk (a0 : Option Addr) (len0 cap0 : Nat) (z0 : List Int) (a1 : Int) (w : World) (w0 : IsRow .u8 w a0 len0 cap0 z0) (w1 : (Lit.int .i64 a1).wf = true) :
    Calls Try.prog 3 #[.slice a0 len0 cap0, .int .i64 a1] w fun e w' => e = .returned (.bool true) ∧ Below w.heap.size w w' := by
  obtain ⟨hsrc, hlen, hmax⟩ := src_of w0
  by_cases h : 65536 < len0 ∨ a1 < 1 ∨ 255 < a1
  · exact early a0 len0 cap0 a1 w hmax h
  · obtain ⟨bs, rfl⟩ : ∃ bs : Nat, a1 = (bs : Int) := ⟨a1.toNat, by omega⟩
    exact inRange _ a0 cap0 (z0.take len0) bs w (by rw [hlen]) hsrc (by rw [hlen]; omega) (by omega) (by omega)

/-! ### THE ROW's STEP: WRITTEN OUT: LEAVE IT -/
set_option maxRecDepth 100000 in
theorem lifted (os : Os) (started : os.Started) (H : Type) (enc : TypeId × Value → H) :
    ReturnsInHanded {} Try.checked os 3 .any (Rows.fnPadExactSpec.pre6 enc Try.prog Try.f3 Rows.fnPadExactRow.domain false) (Rows.fnPadExactSpec.post enc Try.prog Try.f3 false true false false) := by
  refine returnsInHanded_of_change (C := Try.checked) own started (by kernel_rfl) Try.func3
    (ChangeSpec.witness6 (enc := enc) (C := Try.checked) false ⟨#[], #[.slice none 0 0, .int .i64 0], []⟩ 8 (by kernel_rfl) (by kernel_rfl) (by kernel_rfl) (by kernel_rfl)) ?_
  intro W base args ds gs before hval0 hW hcnd _
  have hval : ∀ (j : Nat) t v, Try.f3.params[j]? = some t → args[j]? = some v → Value.okWide Try.prog W .any base t v := hval0
  have hW' := hW
  obtain ⟨p, q, hA0, hV, rfl, hfz, hnd⟩ := hW
  have hA : DataW.TrodAll enc Try.prog W 0 (fun _ => true) true Try.f3.params.toList args.toList ds p := hA0
  rw [Try.params3] at hA hval
  obtain ⟨v0, vs0, d0, ds0, p0, q0, hargs, rfl, rfl, h0, r0⟩ := trodAll_cons hA
  obtain ⟨v1, vs1, d1, ds1, p1, q1, rfl, rfl, rfl, h1, r1⟩ := trodAll_cons r0
  obtain ⟨rfl, rfl, rfl⟩ := trodAll_nil r1
  obtain rfl : args = #[v0, v1] := by cases args; simp_all
  obtain ⟨rfl, rfl⟩ := trodVars_none hV
  obtain ⟨a0, len0, cap0, rfl⟩ := okWide_slice Try.underlying22 (hval 0 22 v0 rfl rfl)
  have k0 := h0
  have lt0 : ∀ x ∈ p0, x.block < W.heap.size := by obtain ⟨m, hm⟩ := k0; exact DataW.trod_lt m _ _ _ hm
  obtain ⟨z0, w0⟩ : ∃ zs, IsRow .u8 W a0 len0 cap0 zs := by
    obtain ⟨fuel, hf⟩ := h0
    rcases open_ints Try.underlying22 Try.underlying5 (by kernel_rfl) hf with ⟨hcs, _⟩ | ⟨x, l, c, zs, hcs, _, hl, hm, hz, _, hcell, hwz⟩
    · simp [Value.cells] at hcs
      obtain ⟨rfl, rfl, rfl⟩ := hcs
      exact ⟨[], .inl ⟨rfl, rfl, rfl, rfl⟩⟩
    · simp [Value.cells] at hcs
      obtain ⟨rfl, rfl, rfl⟩ := hcs
      exact ⟨zs, .inr ⟨_, rfl, hl, hm, by simpa using hz, hcell, hwz⟩⟩
  obtain ⟨a1, rfl, rfl, rfl, w1⟩ := open_int Try.underlying3 (hval 1 3 v1 rfl rfl) h1
  clear hA0 hval0
  refine (walk a0 len0 cap0 z0 a1 W w0 w1).mono fun e W' ⟨he, bel⟩ => ?_
  subst he
  exact ⟨_, rfl, _, _, _, [], _, [], hW', trodAll_mk1 (shut_bool Try.underlying4 _), (trodAll_cons_mk (Below.trod laidOut (by kernel_rfl) (of_decide_eq_true (by kernel_rfl)) k0 bel lt0) (trodAll_cons_mk (shut_int Try.underlying3 w1) trodAll_mk0)), rfl, bel.frame _, fun h => by cases h⟩

theorem over : Rows.fnPadExactRow.holds Try.pinned (OpenSpec.ofChange Rows.fnPadExactSpec) :=
  OpenClaim.holds_of_wide 3 Try.f3 rfl rfl rfl rfl rfl rfl rfl ⟨rfl, rfl, rfl, rfl, rfl⟩ rfl rfl rfl rfl rfl (by kernel_rfl) Try.func3 (by kernel_rfl)
    (of_decide_eq_true (by kernel_rfl)) (by unfold Func.isWrapper; first | (rw [if_pos (by decide +kernel)]; kernel_rfl) | (rw [if_neg (by decide +kernel)]; exact ⟨rfl, rfl⟩))
    (fun os started H enc _ => lifted os started H enc)

/-- ████ THE STATEMENT ████ -/
theorem proved : Rows.FnPadExactSaid := over
end Go.Proofs.Qxb6605505a.fnPadExact
