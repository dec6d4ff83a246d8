/-
  Seat b6605158aD: quote.grouped walked over the shelf's contracts of strconv.Itoa and strings.Builder.
-/
import Derived.Test.Qxb6605158aDoorShelf
import Derived.Test.Qxb6605158aDoorPlain
import Derived.WalkKit
import Derived.BigCall
namespace Go.Proofs.Qxb6605158aDoor.Grp
open Go.RowKit Plain

theorem below_grow (w : World) (k : Nat) (os : Array Obj) : Below w.heap.size w (Sort.grow (w.drewN k) os) := by
  have h1 : ∀ n, (w.drewN n).heap = w.heap := by intro n; rfl
  refine ⟨rfl, rfl, rfl, ?_, ?_⟩
  · rw [Sort.size_grow, h1]; omega
  · intro j hj
    rw [Sort.heap_grow_old _ _ (by rw [h1]; exact hj), h1]

theorem itoa_any (n : Int) (h0 : -9223372036854775808 ≤ n) (h1 : n ≤ 9223372036854775807) (w : World) (htab : Lib.TabIs Tryd.prog w "internal/strconv.uint64pow10" .u64 Lib.pow10Tab) :
    Calls Tryd.prog 12 #[.int .i64 n] w fun e w' => e = .returned (.string ⟨(Lib.itoa n).toArray⟩) ∧ Below w.heap.size w w' := by
  refine (Tryd.strconv_Itoa n h0 h1 w htab).mono ?_
  rintro e w' ⟨rfl, k, os, rfl⟩
  exact ⟨rfl, below_grow w k os⟩

def restAt (l : List UInt8) (pos : Nat) : List UInt8 := if pos = 0 then grouped l else grp (l.drop pos)

theorem rest_comma (l : List UInt8) (pos : Nat) (h : pos < l.length) (h0 : 0 < pos) (h3 : (l.length - pos) % 3 = 0) : restAt l pos = [44, l[pos]] ++ restAt l (pos + 1) := by
  unfold restAt
  rw [if_neg (by omega), if_neg (by omega), List.drop_eq_getElem_cons h, grp]
  rw [if_pos (by simp; omega)]
theorem rest_plain (l : List UInt8) (pos : Nat) (h : pos < l.length) (h3 : ¬ (0 < pos ∧ (l.length - pos) % 3 = 0)) : restAt l pos = [l[pos]] ++ restAt l (pos + 1) := by
  unfold restAt
  by_cases h0 : pos = 0
  · subst h0
    rw [if_pos rfl, if_neg (by omega)]
    cases l with
    | nil => simp at h
    | cons c t => simp [grouped]
  · rw [if_neg h0, if_neg (by omega), List.drop_eq_getElem_cons h, grp]
    rw [if_neg (by simp; omega)]
theorem rest_end (l : List UInt8) (pos : Nat) (h : ¬ pos < l.length) (hp : pos ≤ l.length) : restAt l pos = [] := by
  unfold restAt
  split
  · cases l with
    | nil => rfl
    | cons c t => simp at h; omega
  · rw [List.drop_eq_nil_of_le (by omega)]; rfl

theorem byte_at (s : ByteArray) (pos : Nat) (_h : pos < s.size) (h' : pos < s.data.toList.length) : s.data.toList[pos] = s[pos] := by
  simp [ByteArray.getElem_eq_getElem_data]

theorem rest_comma_s (s : ByteArray) (pos : Nat) (h : pos < s.size) (h0 : 0 < pos) (h3 : (((s.size : Int) - (pos : Int)) % 3 == 0) = true) :
    restAt s.data.toList pos = [44, s[pos]] ++ restAt s.data.toList (pos + 1) := by
  have hlp : pos < s.data.toList.length := by simpa using h
  have hll : s.data.toList.length = s.size := by simp
  have h3' : ((s.size : Int) - (pos : Int)) % 3 = 0 := by simpa using h3
  rw [rest_comma _ _ hlp h0 (by omega), byte_at s pos h hlp]

theorem rest_plain_s (s : ByteArray) (pos : Nat) (h : pos < s.size) (h3 : ¬ (0 < pos ∧ (((s.size : Int) - (pos : Int)) % 3 == 0) = true)) :
    restAt s.data.toList pos = [s[pos]] ++ restAt s.data.toList (pos + 1) := by
  have hlp : pos < s.data.toList.length := by simpa using h
  have hll : s.data.toList.length = s.size := by simp
  rw [rest_plain _ _ hlp ?_, byte_at s pos h hlp]
  rintro ⟨ha, hb3⟩
  refine h3 ⟨ha, ?_⟩
  have : ((s.size : Int) - (pos : Int)) % 3 = 0 := by omega
  simpa using this

theorem cells_one (r : Int) (h0 : 0 ≤ r) (h1 : r ≤ 127) : Lib.runeCells r = [.int .u8 r] := by
  unfold Lib.runeCells; rw [Lib.encodeRuneZ_one h0 h1]; rfl

theorem byteCells_one (c : UInt8) : Lib.byteCells [c] = [.int .u8 (c.toNat : Int)] := rfl

set_option maxHeartbeats 4000000 in
set_option maxRecDepth 1000000 in
theorem grouped_core (n : Int) (s : ByteArray) (w : World) (hlen : s.size ≤ 21) (hby : ∀ p (h : p < s.size), s[p].toNat < 128)
    (HI : Hid (Calls Tryd.prog 12 #[.int .i64 n] w fun e w' => e = .returned (.string s) ∧ Below w.heap.size w w')) :
    Calls Tryd.prog 10 #[.int .i64 n] w fun e w' => e = .returned (.string ⟨(grouped s.data.toList).toArray⟩) ∧ Below w.heap.size w w' := by
  have HBY : Hid (∀ p (h : p < s.size), s[p].toNat < 128) := hby
  clear hby
  go_enter Tryd.func10, Tryd.ntmps10
  go_wp2_with (go_at_call 12; refine HI.out.mono ?_; rintro e W1 ⟨rfl, hB1⟩)
  have HB1 : Hid (Below w.heap.size w W1) := hB1
  clear hB1
  go_loopw [] (fun wr => ∃ (pos : Nat) (acc : List UInt8), pos ≤ s.size ∧ Lib.IsBuilderF 34 5 W1.heap.size W1.heap.size (Lib.byteCells acc) wr ∧ wr.heap[W1.heap.size + 1]? = some (.stringIter s pos) ∧ Below W1.heap.size W1 wr ∧ acc ++ restAt s.data.toList pos = grouped s.data.toList ∧ acc.length ≤ 2 * pos) (fun wr => s.size - wr.iterPos (W1.heap.size + 1))
  case atStart =>
    refine ⟨0, [], by omega, (Lib.IsBuilderF.of (Lib.fresh_isBuilder 34 5 W1)).alloc _, ?_, ((Below.refl _ W1).alloc (Nat.le_refl _) _).alloc (by simp) _, rfl, by simp⟩
    have := World.iter_heap (W1.alloc (.cells #[.pointer none, .slice none 0 0] 34)) s 0
    simpa using this
  case round =>
    obtain ⟨pos, acc, hpl, hI, hit, hbw, hacc, hal⟩ := hrel
    have HACC : Hid (acc ++ restAt s.data.toList pos = grouped s.data.toList) := hacc
    clear hacc
    have hsz : W1.heap.size + 1 < wr.heap.size := (Array.getElem?_eq_some_iff.1 hit).1
    by_cases hp : pos < s.size
    · have hb := HBY.out pos hp
      have hnx : ∀ ty, (Instr.next (.pointer (some ⟨W1.heap.size + 1, 0, none⟩)) true ty).run Tryd.prog wr = _ := fun ty => Lib.run_next_ascii_at wr (W1.heap.size + 1) s pos ty hit hp hb
      have hI2 := hI.iterAt hit (pos + 1)
      have hit2 := Lib.iterAt_heap wr (W1.heap.size + 1) s pos (pos + 1) hit
      have hbw2 := Lib.below_iterAt hbw (k := W1.heap.size + 1) (by omega) s (pos + 1)
      have hsz2 : W1.heap.size ≤ (wr.iterAt (W1.heap.size + 1) s (pos + 1)).heap.size := by rw [Lib.iterAt_size]; omega
      by_cases hc : 0 < pos ∧ (((s.size : Int) - (pos : Int)) % 3 == 0) = true
      · obtain ⟨hc0, hc3⟩ := hc
        have HR : Hid (restAt s.data.toList pos = [44, s[pos]] ++ restAt s.data.toList (pos + 1)) := rest_comma_s s pos hp hc0 hc3
        go_wp2_with fail
        refine (Tryd.Builder_WriteByte_k W1.heap.size W1.heap.size _ 44 _ hI2 (by rw [Lib.byteCells_length]; omega) hsz2).mono ?_
        rintro e W2 ⟨rfl, h1, b1, k1⟩
        have hit3 := k1.iter hit2 (by omega)
        have hbw3 := hbw2.trans b1
        have hsz3 : W1.heap.size ≤ W2.heap.size := by have := b1.size; omega
        go_wp2_with fail
        refine (Tryd.Builder_WriteRune_k W1.heap.size W1.heap.size _ _ (by omega) (by omega) _ (Or.inr h1) (by simp [Lib.byteCells_length]; omega) hsz3).mono ?_
        rintro e W3 ⟨rfl, h2, b2, k2⟩
        go_wp2
        go_roundw
        case rel =>
          refine ⟨pos + 1, acc ++ [44, s[pos]], by omega, ?_, k2.iter hit3 (by omega), hbw3.trans b2, ?_, by simp; omega⟩
          · rw [cells_one _ (by omega) (by omega)] at h2
            rw [Lib.byteCells_append, show ([44, s[pos]] : List UInt8) = [44] ++ [s[pos]] from rfl, Lib.byteCells_append, byteCells_one, byteCells_one, ← List.append_assoc]
            exact Or.inr h2
          · rw [← HACC.out, HR.out, List.append_assoc]
        case measure =>
          simp only [World.iterPos, k2.iter hit3 (by omega), hit]
          omega
      · have HR : Hid (restAt s.data.toList pos = [s[pos]] ++ restAt s.data.toList (pos + 1)) := rest_plain_s s pos hp hc
        have hfin : ∀ W3 : World, Lib.BuilderAtF 34 5 W1.heap.size W1.heap.size (.pointer (some ⟨W1.heap.size, 0, none⟩)) (Lib.byteCells acc ++ Lib.runeCells (s[pos].toNat : Int)) W3 →
            Lib.IsBuilderF 34 5 W1.heap.size W1.heap.size (Lib.byteCells (acc ++ [s[pos]])) W3 := by
          intro W3 h2
          rw [cells_one _ (by omega) (by omega)] at h2
          rw [Lib.byteCells_append, byteCells_one]
          exact Or.inr h2
        have HF := hfin
        have hfin' : Hid _ := HF
        clear hfin HF
        by_cases hc0 : 0 < pos
        · have hc3 : (((s.size : Int) - (pos : Int)) % 3 == 0) = false := by
            rw [Bool.eq_false_iff]; exact fun h => hc ⟨hc0, h⟩
          clear hc
          go_wp2_with fail
          refine (Tryd.Builder_WriteRune_k W1.heap.size W1.heap.size _ _ (by omega) (by omega) _ hI2 (by simp [Lib.byteCells_length]; omega) hsz2).mono ?_
          rintro e W3 ⟨rfl, h2, b2, k2⟩
          go_wp2
          go_roundw
          case rel =>
            exact ⟨pos + 1, acc ++ [s[pos]], by omega, hfin'.out W3 h2, k2.iter hit2 (by omega), hbw2.trans b2, by rw [← HACC.out, HR.out, List.append_assoc], by simp; omega⟩
          case measure =>
            simp only [World.iterPos, k2.iter hit2 (by omega), hit]
            omega
        · clear hc
          go_wp2_with fail
          refine (Tryd.Builder_WriteRune_k W1.heap.size W1.heap.size _ _ (by omega) (by omega) _ hI2 (by simp [Lib.byteCells_length]; omega) hsz2).mono ?_
          rintro e W3 ⟨rfl, h2, b2, k2⟩
          go_wp2
          go_roundw
          case rel =>
            exact ⟨pos + 1, acc ++ [s[pos]], by omega, hfin'.out W3 h2, k2.iter hit2 (by omega), hbw2.trans b2, by rw [← HACC.out, HR.out, List.append_assoc], by simp; omega⟩
          case measure =>
            simp only [World.iterPos, k2.iter hit2 (by omega), hit]
            omega
    · have hnx : ∀ ty, (Instr.next (.pointer (some ⟨W1.heap.size + 1, 0, none⟩)) true ty).run Tryd.prog wr = _ := fun ty => Lib.run_next_end_at wr (W1.heap.size + 1) s pos ty hit hp
      go_wp2_with fail
      refine (Tryd.Builder_String_any_k W1.heap.size W1.heap.size acc _ hI (by omega)).mono ?_
      rintro e W2 ⟨rfl, _, b1, _⟩
      go_wp2
      go_ret
      have ha := HACC.out
      rw [rest_end _ _ (by simpa using hp) (by simpa using hpl), List.append_nil] at ha
      subst ha
      exact ⟨rfl, HB1.out.trans ((hbw.trans b1).mono HB1.out.size)⟩

theorem grouped_any (n : Int) (h0 : -9223372036854775808 ≤ n) (h1 : n ≤ 9223372036854775807) (w : World) (htab : Lib.TabIs Tryd.prog w "internal/strconv.uint64pow10" .u64 Lib.pow10Tab) :
    Calls Tryd.prog 10 #[.int .i64 n] w fun e w' => e = .returned (.string ⟨(grouped (Lib.itoa n)).toArray⟩) ∧ Below w.heap.size w w' := by
  have hlen := Lib.itoa_length_le n h0 h1
  have hby := itoa_byte n
  refine grouped_core n ⟨(Lib.itoa n).toArray⟩ w (by simpa [ByteArray.size] using hlen) ?_ (itoa_any n h0 h1 w htab)
  intro p h
  have h' : p < (Lib.itoa n).length := by simpa [ByteArray.size] using h
  have e : (⟨(Lib.itoa n).toArray⟩ : ByteArray)[p] = (Lib.itoa n)[p] := by simp [ByteArray.getElem_eq_getElem_data]
  rw [e]
  have := hby _ (List.getElem_mem h')
  omega

set_option maxHeartbeats 400000 in
theorem zz_any (n : Int) (h0 : -9223372036854775808 ≤ n) (h1 : n ≤ 9223372036854775807) (w : World) (htab : Lib.TabIs Tryd.prog w "internal/strconv.uint64pow10" .u64 Lib.pow10Tab) :
    Calls Tryd.prog 5 #[.int .i64 n] w fun e w' => e = .returned (.string ⟨(grouped (Lib.itoa n)).toArray⟩) ∧ Below w.heap.size w w' := by
  have HG : Hid (Calls Tryd.prog 10 #[.int .i64 n] w fun e w' => e = .returned (.string ⟨(grouped (Lib.itoa n)).toArray⟩) ∧ Below w.heap.size w w') := grouped_any n h0 h1 w htab
  clear htab
  generalize (⟨(grouped (Lib.itoa n)).toArray⟩ : ByteArray) = s at HG ⊢
  go_enter Tryd.func5, Tryd.ntmps5
  go_wp2_with (go_at_call 10; refine HG.out.mono ?_; rintro e W1 ⟨rfl, hB1⟩)
  go_ret
  exact ⟨rfl, hB1⟩
end Go.Proofs.Qxb6605158aDoor.Grp
