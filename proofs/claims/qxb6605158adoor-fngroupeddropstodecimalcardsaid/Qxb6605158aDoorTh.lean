/-
  Seat b6605158aD: zzAppendPlain; append of one byte onto a row of the call's own.
-/
import Derived.Test.Qxb6605158aDoorGrp
import Derived.OwnWalk
namespace Go.Proofs.Qxb6605158aDoor.Th
open Go.RowKit Plain

theorem info5 : (Tryd.prog.info? 5).map (fun i => (i.zero, i.size, i.bytes)) = some (some (.int .u8 0), 1, 1) := by kernel_rfl

/-- 'append(out, c)' of one byte, the byte's own new block just laid: the row grows by the byte; below B nothing turns. -/
theorem app1 {ops : Array Oper} {rest : List Oper} {o : Oper} {a : Act} {Q : Exit → Act → World → Prop} (hgd : o.guard = none) (s x : Operand)
    (ho : o.op = .call { callee := .builtin .append, args := #[s, x], argTypes := #[29, 29] })
    (B : Nat) (v : Value) (n : Nat) (xs : List Value) (w0 : World) (c : Int) (hs : a.eval s = v) (hown : w0.ownsRow B 5 1 v n xs)
    (hx : a.eval x = .slice (some ⟨w0.heap.size, 0, none⟩) 1 1) (hn : n ≤ 1000) (hB : B ≤ w0.heap.size)
    (h : ∀ v' w', w'.ownsRow B 5 1 v' (n + 1) (xs ++ [.int .u8 c]) → Below B w0 w' → B ≤ w'.heap.size → wpList Tryd.prog ops Q rest (a.put o.dst v') w') :
    wpList Tryd.prog ops Q (o :: rest) a (w0.alloc (.cells #[.int .u8 c] 5)) := by
  obtain ⟨i0, hi, hz0, hz1, hz2⟩ := info_parts info5
  have hb1 : Below B w0 (w0.alloc (.cells #[.int .u8 c] 5)) := (Below.refl _ _).alloc hB _
  refine wpList_append_own _ hgd s x 29 ho B 5 i0 (.int .u8 0) 1 1 Tryd.underlying29 hi hz0 hz1 hz2 rfl (by decide) v n xs hs (hown.alloc _) ⟨w0.heap.size, 0, none⟩ 1 1 [.int .u8 c] hx rfl ?_ ?_ ?_ ?_ ?_ ?_
  · intro j u hj
    match j, hj with
    | 0, hj => simp at hj; subst hj; simp [Addr.add]
  · intro u hu; simp at hu; subst hu; rfl
  · unfold maxLen; omega
  · omega
  · have := hb1.size; omega
  · intro v' w' h1 h2 _
    have hb := hb1.grown h2 (by have := hb1.size; omega) (fun k hk => (hown.lt k hk).1)
    exact h v' w' h1 hb (by have := hb.size; omega)

theorem dch_cell (k : Nat) (h : k < 10) : Lib.byteCells [dch k] = [.int .u8 (48 + (k : Int))] := by
  unfold Lib.byteCells dch
  simp only [List.map_cons, List.map_nil]
  rw [UInt8.toNat_ofNat', Nat.mod_eq_of_lt (by omega)]
  rfl

set_option maxHeartbeats 400000 in
theorem plain_lo (g : Nat) (hg : g < 10) (B : Nat) (v : Value) (n : Nat) (xs : List Value) (w : World) (hown : w.ownsRow B 5 1 v n xs) (hn : n ≤ 100) (hB : B ≤ w.heap.size) :
    Calls Tryd.prog 11 #[v, .int .u64 g] w fun e w' => ∃ v', e = .returned v' ∧ w'.ownsRow B 5 1 v' (n + 1) (xs ++ [.int .u8 (48 + (g : Int) % 10)]) ∧ Below B w w' := by
  go_enter Tryd.func11, Tryd.ntmps11
  go_wp2_with (at_builtin; refine app1 rfl _ _ rfl B _ _ _ _ _ rfl (by assumption) rfl (by omega) (by assumption) ?_; intro v' w1 hown1 hbw1 hB1)
  go_ret
  exact ⟨_, rfl, hown1, hbw1⟩

set_option maxHeartbeats 400000 in
theorem plain_mid (g : Nat) (hg0 : 10 ≤ g) (hg : g < 100) (B : Nat) (v : Value) (n : Nat) (xs : List Value) (w : World) (hown : w.ownsRow B 5 1 v n xs) (hn : n ≤ 100) (hB : B ≤ w.heap.size) :
    Calls Tryd.prog 11 #[v, .int .u64 g] w fun e w' => ∃ v', e = .returned v' ∧ w'.ownsRow B 5 1 v' (n + 1 + 1) (xs ++ [.int .u8 (48 + (g : Int) / 10 % 10)] ++ [.int .u8 (48 + (g : Int) % 10)]) ∧ Below B w w' := by
  go_enter Tryd.func11, Tryd.ntmps11
  go_wp2_with (first | (at_builtin; refine app1 rfl (.tmp 16) _ rfl B _ _ _ _ _ rfl hown rfl (by omega) hB ?_; intro v1 w1 hown1 hbw1 hB1) | (at_builtin; refine app1 rfl (.tmp 24) _ rfl B _ _ _ _ _ rfl hown1 rfl (by omega) hB1 ?_; intro v2 w2 hown2 hbw2 hB2))
  go_ret
  exact ⟨_, rfl, hown2, hbw1.trans hbw2⟩

set_option maxHeartbeats 400000 in
theorem plain_hi (g : Nat) (hg0 : 100 ≤ g) (hg : g < 1000) (B : Nat) (v : Value) (n : Nat) (xs : List Value) (w : World) (hown : w.ownsRow B 5 1 v n xs) (hn : n ≤ 100) (hB : B ≤ w.heap.size) :
    Calls Tryd.prog 11 #[v, .int .u64 g] w fun e w' => ∃ v', e = .returned v' ∧ w'.ownsRow B 5 1 v' (n + 1 + 1 + 1) (xs ++ [.int .u8 (48 + (g : Int) / 100)] ++ [.int .u8 (48 + (g : Int) / 10 % 10)] ++ [.int .u8 (48 + (g : Int) % 10)]) ∧ Below B w w' := by
  go_enter Tryd.func11, Tryd.ntmps11
  go_wp2_with (first | (at_builtin; refine app1 rfl (.tmp 7) _ rfl B _ _ _ _ _ rfl hown rfl (by omega) hB ?_; intro v0 w0 hown0 hbw0 hB0) | (at_builtin; refine app1 rfl (.tmp 16) _ rfl B _ _ _ _ _ rfl hown0 rfl (by omega) hB0 ?_; intro v1 w1 hown1 hbw1 hB1) | (at_builtin; refine app1 rfl (.tmp 24) _ rfl B _ _ _ _ _ rfl hown1 rfl (by omega) hB1 ?_; intro v2 w2 hown2 hbw2 hB2))
  go_ret
  exact ⟨_, rfl, hown2, (hbw0.trans hbw1).trans hbw2⟩

theorem plain_any (g : Nat) (hg : g < 1000) (B : Nat) (v : Value) (n : Nat) (xs : List Value) (w : World) (hown : w.ownsRow B 5 1 v n xs) (hn : n ≤ 100) (hB : B ≤ w.heap.size) :
    Calls Tryd.prog 11 #[v, .int .u64 g] w fun e w' => ∃ v', e = .returned v' ∧ w'.ownsRow B 5 1 v' (n + (plain g).length) (xs ++ Lib.byteCells (plain g)) ∧ Below B w w' := by
  have c1 : Lib.byteCells [dch (g % 10)] = [.int .u8 (48 + (g : Int) % 10)] := by rw [dch_cell _ (by omega)]; rfl
  have c2 : Lib.byteCells [dch (g / 10 % 10)] = [.int .u8 (48 + (g : Int) / 10 % 10)] := by rw [dch_cell _ (by omega)]; rfl
  have c3 : Lib.byteCells [dch (g / 100)] = [.int .u8 (48 + (g : Int) / 100)] := by rw [dch_cell _ (by omega)]; rfl
  by_cases h1 : g < 10
  · refine (plain_lo g h1 B v n xs w hown hn hB).mono ?_
    rintro e w' ⟨v', rfl, h2, h3⟩
    have ep : plain g = [dch (g % 10)] := by simp [plain, show ¬ 100 ≤ g by omega, show ¬ 10 ≤ g by omega]
    refine ⟨v', rfl, ?_, h3⟩
    rw [ep, c1]
    exact h2
  · by_cases h2 : g < 100
    · refine (plain_mid g (by omega) h2 B v n xs w hown hn hB).mono ?_
      rintro e w' ⟨v', rfl, h4, h3⟩
      have ep : plain g = [dch (g / 10 % 10)] ++ [dch (g % 10)] := by simp [plain, show ¬ 100 ≤ g by omega, show 10 ≤ g by omega]
      refine ⟨v', rfl, ?_, h3⟩
      rw [ep, Lib.byteCells_append, c1, c2, ← List.append_assoc]
      exact h4
    · refine (plain_hi g (by omega) hg B v n xs w hown hn hB).mono ?_
      rintro e w' ⟨v', rfl, h4, h3⟩
      have ep : plain g = [dch (g / 100)] ++ ([dch (g / 10 % 10)] ++ [dch (g % 10)]) := by simp [plain, show 100 ≤ g by omega, show 10 ≤ g by omega]
      refine ⟨v', rfl, ?_, h3⟩
      rw [ep, Lib.byteCells_append, Lib.byteCells_append, c1, c2, c3]
      simp only [List.append_assoc] at h4
      exact h4
end Go.Proofs.Qxb6605158aDoor.Th
