/-
  Seat b6605505a: padding.Pad onto a row of the call's own.
-/
import Derived.Test.Qxb6605505aCp
namespace Go.Proofs.Qxb6605505a
open Go.RowKit

theorem e25 : grow_ren.t 25 = 5 := rfl

theorem below_drew_alloc (B : Nat) (w : World) (o : Obj) (h : B ≤ w.heap.size) : Below B w (w.drew.alloc o) :=
  ((Below.refl B w).drew).alloc h o

theorem grow_own (B g cap : Nat) (cur : Array Value) (l : List Int) (n : Nat) (w : World) (h : Own w B (.slice (some ⟨g, 0, none⟩) l.length cap) l)
    (hg : w.heap[g]? = some (.cells cur 5 (0, 0))) (hlc : l.length ≤ cap) (hcm : cap ≤ maxLen) (hcs : cur.size = cap * 1) (htake : cur.toList.take (l.length * 1) = l.map (Value.int .u8))
    (hl : l.length ≤ 1000000) (hn : n ≤ 1000) (hB : B ≤ w.heap.size) :
    Calls Try.prog 11 #[.slice (some ⟨g, 0, none⟩) l.length cap, .int .i64 (n : Int)] w fun e w' => ∃ v', e = .returned v' ∧ Own w' B v' l ∧ Below B w w' := by
  obtain ⟨i0, hi, hz0, hz1, hz2⟩ := info_parts info5
  by_cases hr : l.length + n ≤ cap
  · refine (Any8.slices_Grow_room grow_lays (some ⟨g, 0, none⟩) l.length cap n w hlc (by unfold maxLen at hcm; omega) (by omega) hr).mono ?_
    rintro e w' ⟨rfl, rfl⟩
    exact ⟨_, rfl, h, Below.refl _ _⟩
  · have hcell : ∀ j v, cur.toList[j]? = some v → w.cell? ((⟨g, 0, none⟩ : Addr).add j) = some v := by
      intro j v hj
      have e : (⟨g, 0, none⟩ : Addr).add j = ⟨g, j, none⟩ := by unfold Addr.add; split <;> simp_all
      rw [e, cell_of_row w g j cur 5 (0, 0) hg]
      simpa using hj
    refine (Any8.slices_Grow_grow grow_lays i0 (.int .u8 0) hi hz0 (by rw [hz1]; decide) (some ⟨g, 0, none⟩) l.length cap n cur.toList w hlc (by omega) (by rw [hz2]; omega) (by omega) (by rw [hz1]; simpa using hcs) (by intro e; cases e) (by rintro a e; cases e; exact hcell)).mono ?_
    rintro e w' ⟨rfl, rfl⟩
    have hG := grownCap_ge w (l.length + n) cap 5
    have hGm := grownCap_le_maxLen w (l.length + n) cap 5 (by unfold maxLen; omega)
    refine ⟨_, rfl, ⟨h.1, Or.inr ⟨w.heap.size, grownCap w (l.length + n) cap 5, _, rfl, hB, heap_alloc_new w.drew _, by omega, hGm, ?_, ?_⟩⟩, below_drew_alloc B w _ hB⟩
    · have z1 : (Value.int IntKind.u8 0).cells.size = 1 := rfl
      simp only [Array.size_append, size_zeroCells, z1, e25]
      simp
      omega
    · simp only [Array.toList_append]
      rw [List.append_assoc, List.take_append_of_le_length (by simp; omega)]
      simpa using htake

theorem grow_any (B : Nat) (v : Value) (l : List Int) (n : Nat) (w : World) (h : Own w B v l) (hl : l.length ≤ 1000000) (hn : n ≤ 1000) (hB : B ≤ w.heap.size) :
    Calls Try.prog 11 #[v, .int .i64 (n : Int)] w fun e w' => ∃ v', e = .returned v' ∧ Own w' B v' l ∧ Below B w w' := by
  have h' := h
  rcases h'.2 with ⟨rfl, h0⟩ | ⟨g, cap, cur, rfl, _, hg, hlc, hcm, hcs, htake⟩
  · obtain rfl : l = [] := List.eq_nil_of_length_eq_zero h0
    obtain ⟨i0, hi, hz0, hz1, hz2⟩ := info_parts info5
    by_cases hr : n = 0
    · subst hr
      refine (Any8.slices_Grow_room grow_lays none 0 0 0 w (by omega) (by omega) (by omega) (by omega)).mono ?_
      rintro e w' ⟨rfl, rfl⟩
      exact ⟨_, rfl, h, Below.refl _ _⟩
    · refine (Any8.slices_Grow_grow grow_lays i0 (.int .u8 0) hi hz0 (by rw [hz1]; decide) none 0 0 n [] w (by omega) (by omega) (by rw [hz2]; omega) (by omega) (by simp) (by intro _; rfl) (by rintro a e; cases e)).mono ?_
      rintro e w' ⟨rfl, rfl⟩
      have hG := grownCap_ge w (0 + n) 0 5
      have hGm := grownCap_le_maxLen w (0 + n) 0 5 (by unfold maxLen; omega)
      refine ⟨_, rfl, ⟨by simp, Or.inr ⟨w.heap.size, grownCap w (0 + n) 0 5, _, rfl, hB, heap_alloc_new w.drew _, by simp, hGm, ?_, by simp⟩⟩, below_drew_alloc B w _ hB⟩
      have z1 : (Value.int IntKind.u8 0).cells.size = 1 := rfl
      simp only [Array.size_append, size_zeroCells, z1, e25, Nat.zero_add] at hG ⊢
      simp
      omega
  · exact grow_own B g cap cur l n w h hg hlc hcm hcs htake hl hn hB

/-- 'append(msg, c)' of one byte, the byte's own new block just laid: the row grows by the byte; below B nothing turns. -/
theorem app1 {ops : Array Oper} {rest : List Oper} {o : Oper} {a : Act} {Q : Exit → Act → World → Prop} (hgd : o.guard = none) (s x : Operand)
    (ho : o.op = .call { callee := .builtin .append, args := #[s, x], argTypes := #[22, 22] })
    (B : Nat) (v : Value) (l : List Int) (w0 : World) (c : Int) (hs : a.eval s = v) (hown : Own w0 B v l)
    (hx : a.eval x = .slice (some ⟨w0.heap.size, 0, none⟩) 1 1) (hn : l.length ≤ 1000000) (hB : B ≤ w0.heap.size)
    (h : ∀ v' w', Own w' B v' (l ++ [c]) → Below B w0 w' → B ≤ w'.heap.size → wpList Try.prog ops Q rest (a.put o.dst v') w') :
    wpList Try.prog ops Q (o :: rest) a (w0.alloc (.cells #[.int .u8 c] 5)) := by
  obtain ⟨i0, hi, hz0, hz1, hz2⟩ := info_parts info5
  have hb1 : Below B w0 (w0.alloc (.cells #[.int .u8 c] 5)) := (Below.refl _ _).alloc hB _
  refine wpList_append_own _ hgd s x 22 ho B 5 i0 (.int .u8 0) 1 1 Try.underlying22 hi hz0 hz1 hz2 rfl (by decide) v l.length (l.map (Value.int .u8)) hs (World.ownsRow.alloc hown _) ⟨w0.heap.size, 0, none⟩ 1 1 [.int .u8 c] hx rfl ?_ ?_ ?_ ?_ ?_ ?_
  · intro j u hj
    match j, hj with
    | 0, hj => simp at hj; subst hj; simp [Addr.add]
  · intro u hu; simp at hu; subst hu; rfl
  · unfold maxLen; omega
  · omega
  · have := hb1.size; omega
  · intro v' w' h1 h2 _
    have hb := hb1.grown h2 (by have := hb1.size; omega) (fun k hk => (World.ownsRow.lt hown k hk).1)
    refine h v' w' ?_ hb (by have := hb.size; omega)
    unfold Own
    rw [List.length_append, List.map_append]
    exact h1

theorem pads_succ (l : List Int) (k : Nat) (c : Int) : l ++ List.replicate (k + 1) c = (l ++ List.replicate k c) ++ [c] := by
  rw [List.replicate_succ', List.append_assoc]

/-- how many bytes Pad adds -/
def padN (len bs : Nat) : Nat := bs - len % bs

theorem padN_le (len bs : Nat) (h : 1 ≤ bs) : 1 ≤ padN len bs ∧ padN len bs ≤ bs := by
  have := Nat.mod_lt len (show 0 < bs by omega)
  unfold padN
  omega

set_option maxHeartbeats 400000 in
theorem pad_any (B : Nat) (v : Value) (l : List Int) (bs : Nat) (w : World) (h : Own w B v l) (hl : l.length ≤ 500000) (hb1 : 1 ≤ bs) (hb2 : bs ≤ 255) (hB : B ≤ w.heap.size) :
    Calls Try.prog 8 #[v, .int .i64 (bs : Int)] w fun e w' => ∃ v', e = .returned v' ∧ Own w' B v' (l ++ List.replicate (padN l.length bs) (padN l.length bs : Int)) ∧ Below B w w' := by
  have hlv : ∃ a cap, v = .slice a l.length cap := by
    rcases h.2 with ⟨rfl, h0⟩ | ⟨g, cap, cur, rfl, _⟩
    · exact ⟨none, 0, by rw [h0]⟩
    · exact ⟨_, _, rfl⟩
  obtain ⟨a, cap, rfl⟩ := hlv
  obtain ⟨hp1, hp2⟩ := padN_le l.length bs hb1
  have HG : Hid (Calls Try.prog 11 #[.slice a l.length cap, .int .i64 ((padN l.length bs : Nat) : Int)] w fun e w' => ∃ v', e = .returned v' ∧ Own w' B v' l ∧ Below B w w') := grow_any B _ l (padN l.length bs) w h (by omega) (by omega) hB
  have hpn : (bs : Int) - (l.length : Int) % (bs : Int) = ((padN l.length bs : Nat) : Int) := by
    have := Nat.mod_lt l.length (show 0 < bs by omega)
    unfold padN
    omega
  clear h
  generalize padN l.length bs = n at HG hpn hp1 hp2 ⊢
  go_enter Try.func8, Try.ntmps8
  go_wp2_with (go_at_call 11; refine HG.out.mono ?_; rintro e w1 ⟨v1, rfl, hown1, hbw1⟩)
  clear hpn HG
  have hs1 : B ≤ w1.heap.size := Nat.le_trans hB hbw1.size
  go_loopw [0, 16] (fun v i wr => ∃ k : Nat, k ≤ n ∧ i = .int .i64 k ∧ Own wr B v (l ++ List.replicate k (n : Int)) ∧ Below B w wr ∧ B ≤ wr.heap.size) (fun _ i _ => n - (intOf i).toNat)
  case atStart => exact ⟨0, Nat.zero_le _, rfl, by simpa using hown1, hbw1, hs1⟩
  case round =>
    obtain ⟨k, hk, rfl, hownr, hbr, hsr⟩ := hrel
    have hlen : (l ++ List.replicate k (n : Int)).length ≤ 1000000 := by simp; omega
    have HP : Hid (l ++ List.replicate (k + 1) (n : Int) = (l ++ List.replicate k (n : Int)) ++ [(n : Int)]) := pads_succ l k n
    by_cases hlt : k < n
    · generalize l ++ List.replicate k (n : Int) = l0 at hownr hlen HP
      go_wp2_with (at_builtin; refine app1 rfl (.tmp 18) _ rfl B _ _ _ _ rfl hownr rfl hlen hsr ?_; intro v5 w5 hown5 hbw5 hs5)
      go_roundw
      case rel => exact ⟨k + 1, by omega, by go_num, by rw [HP.out]; exact hown5, hbr.trans hbw5, hs5⟩
      case measure => simp [intOf]; omega
    · obtain rfl : k = n := by omega
      go_wp2
      go_ret
      exact ⟨_, rfl, hownr, hbr⟩
end Go.Proofs.Qxb6605505a
