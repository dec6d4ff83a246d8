/-
  Seat b6002417aF: the law's walk.
-/
import Derived.Test.Qxb6002417aFmtPl
import Derived.Laws.IdiomStrings
import Derived.Laws.BytesArg
namespace Go.Proofs.Qxb6002417aFmt
open Go.RowKit Go.Extern.Stop Go.Stop Go.Extern

theorem info5 : (Tryf.prog.info? 5).map (fun i => (i.zero, i.size, i.bytes)) = some (some (.int .u8 0), 1, 1) := by kernel_rfl

/-- v owns, among the blocks from B on, a row of just the bytes l -/
def Own (w : World) (B : Nat) (v : Value) (l : List UInt8) : Prop := w.ownsRow B 5 1 v l.length (l.map fun c => Value.int .u8 (c.toNat : Int))

theorem app1 {ops : Array Oper} {tail : List Oper} {o : Oper} {a : Act} {Q : Exit → Act → World → Prop} (hgd : o.guard = none) (s x : Operand)
    (ho : o.op = .call { callee := .builtin .append, args := #[s, x], argTypes := #[24, 24] })
    (B : Nat) (v : Value) (l : List UInt8) (w0 : World) (c : UInt8) (hs : a.eval s = v) (hown : Own w0 B v l)
    (hx : a.eval x = .slice (some ⟨w0.heap.size, 0, none⟩) 1 1) (hn : l.length ≤ 1000000) (hB : B ≤ w0.heap.size)
    (h : ∀ v' w', Own w' B v' (l ++ [c]) → Below B w0 w' → B ≤ w'.heap.size → wpList Tryf.prog ops Q tail (a.put o.dst v') w') :
    wpList Tryf.prog ops Q (o :: tail) a (w0.alloc (.cells #[.int .u8 (c.toNat : Int)] 5)) := by
  obtain ⟨i0, hi, hz0, hz1, hz2⟩ := info_parts info5
  have hb1 : Below B w0 (w0.alloc (.cells #[.int .u8 (c.toNat : Int)] 5)) := (Below.refl _ _).alloc hB _
  refine wpList_append_own _ hgd s x 24 ho B 5 i0 (.int .u8 0) 1 1 Tryf.underlying24 hi hz0 hz1 hz2 rfl (by decide) v l.length (l.map fun c => Value.int .u8 (c.toNat : Int)) hs (World.ownsRow.alloc hown _) ⟨w0.heap.size, 0, none⟩ 1 1 [.int .u8 (c.toNat : Int)] hx rfl ?_ ?_ ?_ ?_ ?_ ?_
  · intro j u hj
    match j, hj with
    | 0, hj => simp at hj; subst hj; simp [Addr.add]
  · intro u hu; simp at hu; subst hu; rfl
  · unfold maxLen; omega
  · omega
  · have := hb1.size; omega
  · intro v' w' h1 h2 _
    have hb := hb1.grown h2 (by have := hb1.size; omega) (fun k hk => (World.ownsRow.lt hown k hk).1)
    refine h v' w' ?_ hb (by have := hb.size; omega)
    unfold Own
    rw [List.length_append, List.map_append]
    exact h1

theorem own_string {w : World} {B : Nat} {v : Value} {l : List UInt8} (h : Own w B v l) :
    (convert 24 9 v).run Tryf.prog w = .ok (.string ⟨l.toArray⟩) w := by
  have hcl := fun g hg => World.ownsRow.cells (g := g) h hg
  rcases h.2 with ⟨rfl, hn⟩ | ⟨g, cap, cur, rfl, _⟩
  · obtain rfl : l = [] := List.eq_nil_of_length_eq_zero hn
    exact run_convert_bytes_nil w 24 5 Tryf.underlying24 Tryf.underlying5 0 0 9 Tryf.underlying9
  · refine run_convert_bytes_back w 24 9 5 ⟨g, 0, none⟩ cap l Tryf.underlying24 Tryf.underlying5 Tryf.underlying9 ?_
    intro j hj
    refine hcl g rfl j _ ?_
    simp [List.getElem?_eq_getElem hj]

theorem take_snoc (s : ByteArray) (k : Nat) (h : k < s.size) : s.data.toList.take (k + 1) = s.data.toList.take k ++ [s[k]] := by
  rw [List.take_succ_eq_append_getElem (by simpa using h)]; rfl

theorem has_bits : ∀ mask, mask < 16 → ∀ k, k < 4 → (bits BinOp.and IntKind.u8 ((mask : Nat) : Int) ((2 : Int) ^ k % 256) != 0) = has mask k := by decide +kernel

theorem lstr_size (k : Nat) : 0 < (lstr k).size := Nat.zero_lt_one
theorem lstr_at (k : Nat) : (lstr k)[0]'(lstr_size k) = letter k := rfl

theorem kAt_lt (rot j : Nat) : kAt rot j < 4 := Nat.mod_lt _ (by decide)

/-- What the law asks of parseFlags, in a text s that is the access word and the letters L. -/
theorem ask_good (F : Interp) (a : Nat) (L : List UInt8) (s : ByteArray) (ha : a < 3) (hs : s.data.toList = word a ++ L) (hl : L.length ≤ 4) (hasc : ∀ b ∈ L, b.toNat < 128) (hnow : L.take 1 ≠ [119]) (R : Int)
    (hlaw : rest (accOf a) L false false false false = some R) (w : World) (hF : F.answers w.tape) (W : World) (hW : Below w.heap.size w W) :
    Calls Tryf.prog 7 #[.string s] W fun e w' => e = .returned (.tuple #[.int .i64 R, .nilIface]) ∧ Below W.heap.size W w' := by
  refine (parse_word F a (by omega) L s hs (by omega) hasc (fun _ => hnow) W (tape_of hF hW)).mono ?_
  rintro e w' ⟨he, hb⟩
  exact ⟨he.1 _ hlaw, hb⟩

theorem ask_bad (F : Interp) (a : Nat) (L : List UInt8) (b : UInt8) (s t : ByteArray) (ha : a < 3) (hs : s.data.toList = word a ++ L) (ht : t.data.toList = [b]) (hl : L.length ≤ 4) (hasc : ∀ b ∈ L, b.toNat < 128) (hb : b.toNat < 128)
    (hnow : L.take 1 ≠ [119]) (hb9 : a = 1 → b ≠ 119) (hlaw : rest (accOf a) (L ++ [b]) false false false false = none) (w : World) (hF : F.answers w.tape) (W : World) (hW : Below w.heap.size w W) :
    Calls Tryf.prog 7 #[.string (s ++ t)] W fun e w' => (∃ u q, e = .returned (.tuple #[.int .i64 0, .iface u q])) ∧ Below W.heap.size W w' := by
  have hst : (s ++ t).data.toList = word a ++ (L ++ [b]) := by rw [ByteArray.toList_data_append, hs, ht, List.append_assoc]
  have hlen : (L ++ [b]).length ≤ 20 := by rw [List.length_append]; simp; omega
  have hall : ∀ c ∈ L ++ [b], c.toNat < 128 := by
    intro c hc
    rcases List.mem_append.1 hc with h | h
    · exact hasc c h
    · rw [List.mem_singleton] at h; subst h; exact hb
  have hfirst : a = 1 → (L ++ [b]).take 1 ≠ [119] := by
    intro h1
    cases L with
    | nil => simpa using hb9 h1
    | cons c l => simpa using hnow
  refine (parse_word F a (by omega) (L ++ [b]) (s ++ t) hst hlen hall hfirst W (tape_of hF hW)).mono ?_
  rintro e w' ⟨he, hb⟩
  exact ⟨he.2 hlaw, hb⟩

theorem word_one (a : Nat) (ha : a < 3) : ∃ b : UInt8, (word a).take 1 = [b] ∧ b.toNat < 128 ∧ (a = 1 → b ≠ 119) := by
  have h3 : a = 0 ∨ a = 1 ∨ a = 2 := by omega
  rcases h3 with rfl | rfl | rfl
  · exact ⟨114, rfl, by decide, by decide⟩
  · exact ⟨114, rfl, by decide, by decide⟩
  · exact ⟨119, rfl, by decide, by decide⟩

theorem letter_ok (f : Nat) (h : f < 4) : (letter f).toNat < 128 ∧ letter f ≠ 119 := by
  have h4 : f = 0 ∨ f = 1 ∨ f = 2 ∨ f = 3 := by omega
  rcases h4 with rfl | rfl | rfl | rfl <;> decide

theorem slice01 (p : ByteArray) (h : 1 ≤ p.size) (W : World) : (Instr.slice 9 (.string p) (some (.int .i64 0)) (some (.int .i64 1)) none).run Tryf.prog W = .ok (.string (p.extract 0 1)) W := by
  rw [run_slice_string W 9 p .i64 .i64 0 1 Tryf.underlying9 (by omega) (by omega) (by omega)]
  rfl

theorem size_mk (l : List UInt8) : (⟨l.toArray⟩ : ByteArray).size = l.length := by simp [ByteArray.size]

set_option maxHeartbeats 1000000 in
theorem walkA (F : Interp) (a mask rot : Nat) (p : ByteArray) (ha : a < 3) (hp : p.data.toList = word a) (hp1 : 1 ≤ p.size) (hp2 : p.size ≤ 2) (hm : mask < 16) (hr : rot < 4) (w : World) (hF : F.answers w.tape)
    (HA : Hid (∀ w : World, Calls Tryf.prog 4 #[.int .i64 (a : Int)] w fun e w' => e = .returned (.tuple #[.string p, .int .i64 (accOf a : Int)]) ∧ w' = w)) :
    Calls Tryf.prog 3 #[.int .u8 (a : Int), .int .u8 (mask : Int), .int .u8 (rot : Int)] w fun e w' => e = .returned (.bool true) ∧ Below w.heap.size w w' := by
  have HPW : Hid (p.data.toList = word a) := hp
  clear hp
  obtain ⟨i0, hi, hz0, hz1, hz2⟩ := info_parts info5
  go_enter Tryf.func3, Tryf.ntmps3
  go_wp2_with fail
  refine (HA.out _).mono ?_
  rintro e w ⟨rfl, rfl⟩
  go_wp2_with (at_make; refine wpList_make_own _ rfl _ _ 24 rfl w.heap.size 5 i0 (.int .u8 0) 1 Tryf.underlying24 hi hz0 hz1 .i64 .i64 8 8 rfl rfl rfl (by rw [hz2]; decide) (by decide) (Nat.le_refl _) ?_; intro w3 hown3 hgrow3; have hbw3 : Below w.heap.size w w3 := (Below.refl _ _).grown hgrow3 (Nat.le_refl _) (fun k hk => by cases hk); clear hgrow3)
  clear hi hz0 hz1 hz2
  go_loopw [9, 10] (fun v i wr => ∃ k : Nat, k ≤ p.size ∧ i = .int .i64 k ∧ Own wr w.heap.size v (p.data.toList.take k) ∧ Below w.heap.size w wr ∧ w.heap.size ≤ wr.heap.size) (fun _ i _ => p.size - (intOf i).toNat)
  case atStart => exact ⟨0, Nat.zero_le _, rfl, hown3, hbw3, hbw3.size⟩
  case round =>
    obtain ⟨k, hk, rfl, hownr, hbr, hsr⟩ := hrel
    by_cases hlt : k < p.size
    · have HK : Hid (p.data.toList.take (k + 1) = p.data.toList.take k ++ [p[k]]) := take_snoc p k hlt
      have hlen : (p.data.toList.take k).length ≤ 1000000 := by
        have := List.length_take_le k p.data.toList
        omega
      generalize p.data.toList.take k = l0 at hownr HK hlen
      go_wp2_with (at_builtin; refine app1 rfl (.tmp 46) _ rfl w.heap.size _ _ _ p[k] rfl hownr rfl hlen hsr ?_; intro v5 w5 hown5 hbw5 hs5)
      go_roundw
      case rel => exact ⟨k + 1, by omega, by go_num, by rw [HK.out]; exact hown5, hbr.trans hbw5, hs5⟩
      case measure => simp [intOf]; omega
    · have hown0 : Own wr w.heap.size u9 p.data.toList := by
        rw [List.take_of_length_le (by simp; omega)] at hownr
        exact hownr
      clear hownr hown3 hbw3
      have HB0 : Hid (Below w.heap.size w wr) := hbr
      clear hbr
      go_wp2
      go_loopw [8, 9, 11, 12] (fun f v q i wr => ∃ j : Nat, j ≤ 4 ∧ i = .int .i64 j ∧ f = .int .i64 (wantAt (accOf a : Int) mask rot j) ∧ q = .int .i64 (firstAt mask rot j) ∧ Own wr w.heap.size v (p.data.toList ++ lettersAt mask rot j) ∧ Below w.heap.size w wr ∧ w.heap.size ≤ wr.heap.size) (fun _ _ _ i _ => 4 - (intOf i).toNat)
      case atStart => exact ⟨0, by omega, rfl, rfl, rfl, by simpa [lettersAt] using hown0, HB0.out, hsr⟩
      case round =>
        obtain ⟨j, hj, rfl, rfl, rfl, hownr, hbr, hsr⟩ := hrel
        by_cases hlt2 : j < 4
        · have hk4 := kAt_lt rot j
          have hka : ((rot : Int) + (j : Int)) % 4 = ((kAt rot j : Nat) : Int) := by unfold kAt; omega
          generalize hkk : kAt rot j = kk at hk4 hka
          have hbits := has_bits mask hm kk hk4
          have HKK : Hid (kAt rot j = kk) := hkk
          have hll : (p.data.toList ++ lettersAt mask rot j).length ≤ 1000000 := by
            have h1 := letters_bd mask hm rot hr j (by omega)
            have h2 : p.data.toList.length = p.size := by simp
            rw [List.length_append]
            omega
          have HLL : Hid (lettersAt mask rot (j + 1) = lettersAt mask rot j ++ (if has mask kk then [letter kk] else [])) := by rw [lettersAt, HKK.out]; exact rfl
          have HWW : Hid (wantAt (accOf a : Int) mask rot (j + 1) = if has mask kk then bits BinOp.or IntKind.i64 (wantAt (accOf a : Int) mask rot j) (lflag kk) else wantAt (accOf a : Int) mask rot j) := by rw [wantAt, HKK.out]; exact rfl
          have HFF : Hid (firstAt mask rot (j + 1) = if has mask kk then (if firstAt mask rot j < 0 then (kk : Int) else firstAt mask rot j) else firstAt mask rot j) := by rw [firstAt, HKK.out]; exact rfl
          clear hkk
          have hown1 : ∀ (w5 : World) (v5 : Value), Own w5 w.heap.size v5 (p.data.toList ++ lettersAt mask rot j ++ [letter kk]) → has mask kk = true → Own w5 w.heap.size v5 (p.data.toList ++ lettersAt mask rot (j + 1)) := by
            intro w5 v5 h5 hh
            rw [HLL.out, hh, if_pos rfl, ← List.append_assoc]
            exact h5
          have HO1 : Hid (∀ (w5 : World) (v5 : Value), Own w5 w.heap.size v5 (p.data.toList ++ lettersAt mask rot j ++ [letter kk]) → has mask kk = true → Own w5 w.heap.size v5 (p.data.toList ++ lettersAt mask rot (j + 1))) := hown1
          clear hown1
          have HST : Hid (∀ W : World, Calls Tryf.prog 5 #[.int .i64 (kk : Int)] W fun e w' => e = .returned (.string (lstr kk)) ∧ w' = W) := fun W => letterStr kk hk4 W
          have HSF : Hid (∀ W : World, Calls Tryf.prog 6 #[.int .i64 (kk : Int)] W fun e w' => e = .returned (.int .i64 (lflag kk)) ∧ w' = W) := fun W => letterFlag kk hk4 W
          have hq0 : 0 < (lstr kk).size := lstr_size kk
          have HQ0 : Hid ((lstr kk)[0]'hq0 = letter kk) := lstr_at kk
          generalize lstr kk = qs at HST hq0 HQ0
          cases hhas : has mask kk with
          | true =>
            have HH : Hid (has mask kk = true) := hhas
            rw [hhas] at hbits
            clear hhas
            by_cases hfirst : firstAt mask rot j < 0
            · go_wp2_with fail
              refine (HST.out _).mono ?_
              rintro e w6 ⟨rfl, rfl⟩
              go_wp2_with (first | (at_builtin; refine app1 rfl (.tmp 67) _ rfl w.heap.size _ _ _ (qs[0]'hq0) rfl hownr rfl hll hsr ?_; intro v5 w5 hown5 hbw5 hs5) | (go_at_call 6; refine (HSF.out _).mono ?_; rintro e w7 ⟨rfl, rfl⟩))
              go_roundw
              case rel =>
                rw [HQ0.out] at hown5
                exact ⟨j + 1, by omega, by go_num, by rw [HWW.out, HH.out, if_pos rfl], by rw [HFF.out, HH.out, if_pos rfl, if_pos hfirst], HO1.out _ _ hown5 HH.out, hbr.trans hbw5, hs5⟩
              case measure => simp [intOf]; omega
            · go_wp2_with fail
              refine (HST.out _).mono ?_
              rintro e w6 ⟨rfl, rfl⟩
              go_wp2_with (first | (at_builtin; refine app1 rfl (.tmp 67) _ rfl w.heap.size _ _ _ (qs[0]'hq0) rfl hownr rfl hll hsr ?_; intro v5 w5 hown5 hbw5 hs5) | (go_at_call 6; refine (HSF.out _).mono ?_; rintro e w7 ⟨rfl, rfl⟩))
              go_roundw
              case rel =>
                rw [HQ0.out] at hown5
                exact ⟨j + 1, by omega, by go_num, by rw [HWW.out, HH.out, if_pos rfl], by rw [HFF.out, HH.out, if_pos rfl, if_neg (by omega)], HO1.out _ _ hown5 HH.out, hbr.trans hbw5, hs5⟩
              case measure => simp [intOf]; omega
          | false =>
            have HH : Hid (has mask kk = false) := hhas
            rw [hhas] at hbits
            clear hhas
            go_wp2
            go_roundw
            case rel =>
              exact ⟨j + 1, by omega, by go_num, by rw [HWW.out, HH.out]; rfl, by rw [HFF.out, HH.out]; rfl, by rw [HLL.out, HH.out]; simpa using hownr, hbr, hsr⟩
            case measure => simp [intOf]; omega
        · obtain rfl : j = 4 := by omega
          have hcv := own_string hownr
          have hss : ((⟨(p.data.toList ++ lettersAt mask rot 4).toArray⟩ : ByteArray)).data.toList = p.data.toList ++ lettersAt mask rot 4 := rfl
          have hsl : ((⟨(p.data.toList ++ lettersAt mask rot 4).toArray⟩ : ByteArray)).size ≤ 10 := by
            have h1 := letters_bd mask hm rot hr 4 (by omega)
            have h2 : p.data.toList.length = p.size := by simp
            rw [size_mk, List.length_append]
            omega
          generalize (⟨(p.data.toList ++ lettersAt mask rot 4).toArray⟩ : ByteArray) = st at hcv hss hsl
          have hss' : st.data.toList = word a ++ lettersAt mask rot 4 := by rw [hss, HPW.out]
          have hll := letters_bd mask hm rot hr 4 (by omega)
          have hasc := letters_ascii mask hm rot hr
          have hnow := letters_now mask hm rot hr
          have g1 := law_good a ha mask hm rot hr
          have g2 := law_z a ha mask hm rot hr
          have g3 := law_word a ha mask hm rot hr
          have g4 := law_first a ha mask hm rot hr
          obtain ⟨b9, hb91, hb92, hb93⟩ := word_one a ha
          have hx : (p.extract 0 1).data.toList = [b9] := by
            rw [ByteArray.data_extract, Array.toList_extract, List.extract_eq_take_drop, HPW.out, ← hb91]; simp
          rw [hb91] at g3
          have H1 : Hid (∀ W : World, Below w.heap.size w W → Calls Tryf.prog 7 #[.string st] W fun e w' => e = .returned (.tuple #[.int .i64 (wantAt (accOf a : Int) mask rot 4), .nilIface]) ∧ Below W.heap.size W w') :=
            fun W hW => ask_good F a _ st ha hss' hll hasc hnow _ g1 w hF W hW
          have H2 : Hid (∀ W : World, Below w.heap.size w W → Calls Tryf.prog 7 #[.string (st ++ { data := #[122] })] W fun e w' => (∃ u q, e = .returned (.tuple #[.int .i64 0, .iface u q])) ∧ Below W.heap.size W w') :=
            fun W hW => ask_bad F a _ 122 st ⟨#[122]⟩ ha hss' rfl hll hasc (by decide) hnow (fun _ => by decide) g2 w hF W hW
          have H3 : Hid (∀ W : World, Below w.heap.size w W → Calls Tryf.prog 7 #[.string (st ++ p.extract 0 1)] W fun e w' => (∃ u q, e = .returned (.tuple #[.int .i64 0, .iface u q])) ∧ Below W.heap.size W w') :=
            fun W hW => ask_bad F a _ b9 st (p.extract 0 1) ha hss' hx hll hasc hb92 hnow hb93 g3 w hF W hW
          have H4 : Hid (∀ f : Nat, firstAt mask rot 4 = (f : Int) → ∀ W : World, Below w.heap.size w W → Calls Tryf.prog 7 #[.string (st ++ lstr f)] W fun e w' => (∃ u q, e = .returned (.tuple #[.int .i64 0, .iface u q])) ∧ Below W.heap.size W w') := by
            intro f hf W hW
            have hlaw := g4 (by omega)
            rw [hf, Int.toNat_natCast] at hlaw
            have hf4 := (first_bd mask hm rot hr 4 (by omega)).2
            obtain ⟨h1, h2⟩ := letter_ok f (by omega)
            exact ask_bad F a _ (letter f) st (lstr f) ha hss' rfl hll hasc h1 hnow (fun _ => h2) hlaw w hF W hW
          clear hss hss' hownr hown0 hll hasc hnow g1 g2 g3 g4 hb91 hb92 hb93 hx
          have hfb := first_bd mask hm rot hr 4 (by omega)
          generalize firstAt mask rot 4 = fi at hfb H4 ⊢
          generalize wantAt (accOf a : Int) mask rot 4 = wa at H1 ⊢
          have hww : (wa != wa) = false := by simp
          have hsl1 : ∀ W : World, (Instr.slice 9 (.string p) (some (.int .i64 0)) (some (.int .i64 1)) none).run Tryf.prog W = .ok (.string (p.extract 0 1)) W := slice01 p hp1
          have hpe : (p.extract 0 1).size ≤ 10 := by simp; omega
          go_wp2_with fail
          refine (H1.out _ hbr).mono ?_
          rintro e w4 ⟨rfl, hb4⟩
          have hbr4 := hbr.trans (hb4.mono hsr)
          have hs4 : w.heap.size ≤ w4.heap.size := hbr4.size
          go_wp2_with fail
          refine (H2.out _ hbr4).mono ?_
          rintro e w5 ⟨⟨u5, q5, rfl⟩, hb5⟩
          have hbr5 := hbr4.trans (hb5.mono hs4)
          have hs5 : w.heap.size ≤ w5.heap.size := hbr5.size
          go_wp2_with fail
          refine (H3.out _ hbr5).mono ?_
          rintro e w6 ⟨⟨u6, q6, rfl⟩, hb6⟩
          have hbr6 := hbr5.trans (hb6.mono hs5)
          have hs6 : w.heap.size ≤ w6.heap.size := hbr6.size
          by_cases hfi : 0 ≤ fi
          · obtain ⟨f, rfl⟩ : ∃ f : Nat, fi = (f : Int) := ⟨fi.toNat, by omega⟩
            have HL : Hid (∀ W : World, Calls Tryf.prog 5 #[.int .i64 (f : Int)] W fun e w' => e = .returned (.string (lstr f)) ∧ w' = W) := fun W => letterStr f (by omega) W
            have H5 := H4.out f rfl
            have H6 : Hid _ := H5
            clear H5 H4
            have hls : (lstr f).size ≤ 10 := by show 1 ≤ 10; omega
            generalize lstr f = lf at HL H6 hls
            go_wp2_with fail
            refine (HL.out _).mono ?_
            rintro e w7 ⟨rfl, rfl⟩
            go_wp2_with fail
            refine (H6.out _ hbr6).mono ?_
            rintro e w8 ⟨⟨u8, q8, rfl⟩, hb8⟩
            go_wp2
            go_ret
            exact ⟨rfl, hbr6.trans (hb8.mono hs6)⟩
          · go_wp2
            go_ret
            exact ⟨rfl, hbr6⟩

set_option maxHeartbeats 1000000 in
/-- outside the law's range it returns true at once -/
theorem early (a m r : Int) (w : World) (h : 2 < a ∨ 15 < m ∨ 3 < r) (ha : 0 ≤ a ∧ a ≤ 255) (hm : 0 ≤ m ∧ m ≤ 255) (hr : 0 ≤ r ∧ r ≤ 255) :
    Calls Tryf.prog 3 #[.int .u8 a, .int .u8 m, .int .u8 r] w fun e w' => e = .returned (.bool true) ∧ Below w.heap.size w w' := by
  by_cases h1 : 2 < a
  · clear h
    go_enter Tryf.func3, Tryf.ntmps3
    go_wp2
    go_ret
    exact ⟨rfl, Below.refl _ _⟩
  · by_cases h2 : 15 < m
    · clear h
      go_enter Tryf.func3, Tryf.ntmps3
      go_wp2
      go_ret
      exact ⟨rfl, Below.refl _ _⟩
    · have h3 : 3 < r := by omega
      clear h
      go_enter Tryf.func3, Tryf.ntmps3
      go_wp2
      go_ret
      exact ⟨rfl, Below.refl _ _⟩

theorem walk (F : Interp) (a m r : Int) (ha : 0 ≤ a ∧ a ≤ 255) (hm : 0 ≤ m ∧ m ≤ 255) (hr : 0 ≤ r ∧ r ≤ 255) (w : World) (hF : F.answers w.tape) :
    Calls Tryf.prog 3 #[.int .u8 a, .int .u8 m, .int .u8 r] w fun e w' => e = .returned (.bool true) ∧ Below w.heap.size w w' := by
  by_cases h : 2 < a ∨ 15 < m ∨ 3 < r
  · exact early a m r w h ha hm hr
  · obtain ⟨mask, rfl⟩ : ∃ n : Nat, m = (n : Int) := ⟨m.toNat, by omega⟩
    obtain ⟨rot, rfl⟩ : ∃ n : Nat, r = (n : Int) := ⟨r.toNat, by omega⟩
    have h3 : a = 0 ∨ a = 1 ∨ a = 2 := by omega
    rcases h3 with rfl | rfl | rfl
    · exact walkA F 0 mask rot ⟨#[114, 119]⟩ (by omega) rfl (by decide) (by decide) (by omega) (by omega) w hF (fun w => access0 w)
    · exact walkA F 1 mask rot ⟨#[114]⟩ (by omega) rfl (by decide) (by decide) (by omega) (by omega) w hF (fun w => access1 w)
    · exact walkA F 2 mask rot ⟨#[119]⟩ (by omega) rfl (by decide) (by decide) (by omega) (by omega) w hF (fun w => access2 w)
end Go.Proofs.Qxb6002417aFmt
