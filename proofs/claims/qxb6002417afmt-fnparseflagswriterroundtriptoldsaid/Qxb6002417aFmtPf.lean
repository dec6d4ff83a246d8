/-
  Seat b6002417aF: script.parseFlags on a text of ASCII bytes.
-/
import Derived.Test.Qxb6002417aFmtEf
import Derived.Lib.OthersKept
import Derived.Deep.QuietTactic
import Derived.BigQuiet
import Derived.BigCall
namespace Go.Proofs.Qxb6002417aFmt
open Go.RowKit Go.Extern.Stop Go.Stop Go.Extern

/-- does s open with the bytes p? -/
def opens (p : List UInt8) (s : ByteArray) : Bool := (s.extract 0 p.length).toList == p

theorem opens_short (p : List UInt8) (s : ByteArray) (h : s.size < p.length) : opens p s = false := by
  unfold opens
  rw [Bool.eq_false_iff]
  intro e
  have e2 : (s.extract 0 p.length).toList = p := by simpa using e
  have e3 := congrArg List.length e2
  rw [ByteArray.toList_eq] at e3
  simp at e3
  omega

set_option maxHeartbeats 400000 in
theorem has2 (s : ByteArray) (w : World) (hs : s.size ≤ 100) :
    Calls Tryf.prog 9 #[.string s, .string ⟨#[114, 119]⟩] w fun e w' => e = .returned (.bool (opens [114, 119] s)) ∧ w' = w := by
  by_cases h : 2 ≤ s.size
  · go_enter Tryf.func9, Tryf.ntmps9
    go_wp2
    go_ret
    exact ⟨rfl, rfl⟩
  · rw [opens_short [114, 119] s (by simp; omega)]
    go_enter Tryf.func9, Tryf.ntmps9
    go_wp2
    go_ret
    exact ⟨rfl, rfl⟩
set_option maxHeartbeats 400000 in
theorem hasR (s : ByteArray) (w : World) (hs : s.size ≤ 100) :
    Calls Tryf.prog 9 #[.string s, .string ⟨#[114]⟩] w fun e w' => e = .returned (.bool (opens [114] s)) ∧ w' = w := by
  by_cases h : 1 ≤ s.size
  · go_enter Tryf.func9, Tryf.ntmps9
    go_wp2
    go_ret
    exact ⟨rfl, rfl⟩
  · rw [opens_short [114] s (by show s.size < 1; omega)]
    go_enter Tryf.func9, Tryf.ntmps9
    go_wp2
    go_ret
    exact ⟨rfl, rfl⟩
set_option maxHeartbeats 400000 in
theorem hasW (s : ByteArray) (w : World) (hs : s.size ≤ 100) :
    Calls Tryf.prog 9 #[.string s, .string ⟨#[119]⟩] w fun e w' => e = .returned (.bool (opens [119] s)) ∧ w' = w := by
  by_cases h : 1 ≤ s.size
  · go_enter Tryf.func9, Tryf.ntmps9
    go_wp2
    go_ret
    exact ⟨rfl, rfl⟩
  · rw [opens_short [119] s (by show s.size < 1; omega)]
    go_enter Tryf.func9, Tryf.ntmps9
    go_wp2
    go_ret
    exact ⟨rfl, rfl⟩

/-- the flags read so far: the access, then c, a, t, x -/
def fl (acc : Nat) (c p t x : Bool) : Int := (acc : Int) + (if c then 64 else 0) + (if p then 1024 else 0) + (if t then 512 else 0) + (if x then 128 else 0)

/-- what parseFlags makes of the letters behind the access word: none: it refuses -/
def rest (acc : Nat) : List UInt8 → Bool → Bool → Bool → Bool → Option Int
  | [], c, p, t, x => some (fl acc c p t x)
  | b :: l, c, p, t, x =>
    if b.toNat = 99 then (if c then none else rest acc l true p t x)
    else if b.toNat = 97 then (if p then none else rest acc l c true t x)
    else if b.toNat = 116 then (if t then none else rest acc l c p true x)
    else if b.toNat = 120 then (if x then none else rest acc l c p t true)
    else none

/-- how the call ends -/
def Ends (R : Option Int) (e : Ending) : Prop :=
  (∀ f, R = some f → e = .returned (.tuple #[.int .i64 f, .nilIface])) ∧ (R = none → ∃ u q, e = .returned (.tuple #[.int .i64 0, .iface u q]))

theorem ends_some {R : Option Int} {f : Int} (h : R = some f) : Ends R (.returned (.tuple #[.int .i64 f, .nilIface])) :=
  ⟨fun g hg => (by rw [h] at hg; cases hg; rfl), fun hn => (by rw [h] at hn; cases hn)⟩
theorem ends_none {R : Option Int} {u : TypeId} {q : Value} (h : R = none) : Ends R (.returned (.tuple #[.int .i64 0, .iface u q])) :=
  ⟨fun g hg => (by rw [h] at hg; cases hg), fun _ => ⟨u, q, rfl⟩⟩

theorem and_c (acc : Nat) (h : acc ≤ 2) (c p t x : Bool) : (bits BinOp.and IntKind.i64 (fl acc c p t x) 64 != 0) = c := by
  have h3 : acc = 0 ∨ acc = 1 ∨ acc = 2 := by omega
  rcases h3 with rfl | rfl | rfl <;> revert c p t x <;> decide
theorem or_c (acc : Nat) (h : acc ≤ 2) (p t x : Bool) : bits BinOp.or IntKind.i64 (fl acc false p t x) 64 = fl acc true p t x := by
  have h3 : acc = 0 ∨ acc = 1 ∨ acc = 2 := by omega
  rcases h3 with rfl | rfl | rfl <;> revert p t x <;> decide
theorem and_p (acc : Nat) (h : acc ≤ 2) (c p t x : Bool) : (bits BinOp.and IntKind.i64 (fl acc c p t x) 1024 != 0) = p := by
  have h3 : acc = 0 ∨ acc = 1 ∨ acc = 2 := by omega
  rcases h3 with rfl | rfl | rfl <;> revert c p t x <;> decide
theorem or_p (acc : Nat) (h : acc ≤ 2) (c t x : Bool) : bits BinOp.or IntKind.i64 (fl acc c false t x) 1024 = fl acc c true t x := by
  have h3 : acc = 0 ∨ acc = 1 ∨ acc = 2 := by omega
  rcases h3 with rfl | rfl | rfl <;> revert c t x <;> decide
theorem and_t (acc : Nat) (h : acc ≤ 2) (c p t x : Bool) : (bits BinOp.and IntKind.i64 (fl acc c p t x) 512 != 0) = t := by
  have h3 : acc = 0 ∨ acc = 1 ∨ acc = 2 := by omega
  rcases h3 with rfl | rfl | rfl <;> revert c p t x <;> decide
theorem or_t (acc : Nat) (h : acc ≤ 2) (c p x : Bool) : bits BinOp.or IntKind.i64 (fl acc c p false x) 512 = fl acc c p true x := by
  have h3 : acc = 0 ∨ acc = 1 ∨ acc = 2 := by omega
  rcases h3 with rfl | rfl | rfl <;> revert c p x <;> decide
theorem and_x (acc : Nat) (h : acc ≤ 2) (c p t x : Bool) : (bits BinOp.and IntKind.i64 (fl acc c p t x) 128 != 0) = x := by
  have h3 : acc = 0 ∨ acc = 1 ∨ acc = 2 := by omega
  rcases h3 with rfl | rfl | rfl <;> revert c p t x <;> decide
theorem or_x (acc : Nat) (h : acc ≤ 2) (c p t : Bool) : bits BinOp.or IntKind.i64 (fl acc c p t false) 128 = fl acc c p t true := by
  have h3 : acc = 0 ∨ acc = 1 ∨ acc = 2 := by omega
  rcases h3 with rfl | rfl | rfl <;> revert c p t <;> decide

theorem drop_at (r : ByteArray) (pos : Nat) (h : pos < r.size) : r.data.toList.drop pos = r[pos] :: r.data.toList.drop (pos + 1) := by
  have h' : pos < r.data.toList.length := by simpa using h
  rw [List.drop_eq_getElem_cons h']
  simp [ByteArray.getElem_eq_getElem_data]

theorem eqb_true {n : Nat} {k : Nat} (h : n = k) : (((n : Nat) : Int) == ((k : Nat) : Int)) = true := by subst h; simp
theorem eqb_false {n : Nat} {k : Nat} (h : n ≠ k) : (((n : Nat) : Int) == ((k : Nat) : Int)) = false := by
  rw [Bool.eq_false_iff]
  intro e
  have : ((n : Nat) : Int) = ((k : Nat) : Int) := by simpa using e
  omega

theorem rest_c_new (acc : Nat) (b : UInt8) (l : List UInt8) (p t x : Bool) (h : b.toNat = 99) : rest acc (b :: l) false p t x = rest acc l true p t x := by
  rw [rest, if_pos h]; rfl
theorem rest_c_old (acc : Nat) (b : UInt8) (l : List UInt8) (p t x : Bool) (h : b.toNat = 99) : rest acc (b :: l) true p t x = none := by
  rw [rest, if_pos h]; rfl
theorem rest_p_new (acc : Nat) (b : UInt8) (l : List UInt8) (c t x : Bool) (h : b.toNat = 97) : rest acc (b :: l) c false t x = rest acc l c true t x := by
  rw [rest, if_neg (show ¬ b.toNat = 99 by omega), if_pos h]; rfl
theorem rest_p_old (acc : Nat) (b : UInt8) (l : List UInt8) (c t x : Bool) (h : b.toNat = 97) : rest acc (b :: l) c true t x = none := by
  rw [rest, if_neg (show ¬ b.toNat = 99 by omega), if_pos h]; rfl
theorem rest_t_new (acc : Nat) (b : UInt8) (l : List UInt8) (c p x : Bool) (h : b.toNat = 116) : rest acc (b :: l) c p false x = rest acc l c p true x := by
  rw [rest, if_neg (show ¬ b.toNat = 99 by omega), if_neg (show ¬ b.toNat = 97 by omega), if_pos h]; rfl
theorem rest_t_old (acc : Nat) (b : UInt8) (l : List UInt8) (c p x : Bool) (h : b.toNat = 116) : rest acc (b :: l) c p true x = none := by
  rw [rest, if_neg (show ¬ b.toNat = 99 by omega), if_neg (show ¬ b.toNat = 97 by omega), if_pos h]; rfl
theorem rest_x_new (acc : Nat) (b : UInt8) (l : List UInt8) (c p t : Bool) (h : b.toNat = 120) : rest acc (b :: l) c p t false = rest acc l c p t true := by
  rw [rest, if_neg (show ¬ b.toNat = 99 by omega), if_neg (show ¬ b.toNat = 97 by omega), if_neg (show ¬ b.toNat = 116 by omega), if_pos h]; rfl
theorem rest_x_old (acc : Nat) (b : UInt8) (l : List UInt8) (c p t : Bool) (h : b.toNat = 120) : rest acc (b :: l) c p t true = none := by
  rw [rest, if_neg (show ¬ b.toNat = 99 by omega), if_neg (show ¬ b.toNat = 97 by omega), if_neg (show ¬ b.toNat = 116 by omega), if_pos h]; rfl
theorem rest_other (acc : Nat) (b : UInt8) (l : List UInt8) (c p t x : Bool) (h1 : b.toNat ≠ 99) (h2 : b.toNat ≠ 97) (h3 : b.toNat ≠ 116) (h4 : b.toNat ≠ 120) : rest acc (b :: l) c p t x = none := by
  rw [rest, if_neg h1, if_neg h2, if_neg h3, if_neg h4]

theorem tape_of {F : Interp} {w wr : World} {B : Nat} (hF : F.answers w.tape) (hb : Below B w wr) : F.answers wr.tape := by rw [hb.tape]; exact hF

theorem below_drews {B : Nat} {w w' : World} (h : Below B w w') (d : Nat) : Below B w (w'.drewN d) := ⟨h.os, h.tape, h.output, h.size, h.block⟩

set_option maxHeartbeats 4000000 in
theorem parse_rw (F : Interp) (s r : ByteArray) (w : World) (hF : F.answers w.tape) (hs : s.size ≤ 100) (h1 : 2 ≤ s.size) (ho : opens [114, 119] s = true) (hr : s.extract 2 s.size = r) (hby : ∀ p (h : p < r.size), r[p].toNat < 128) (R : Option Int) (hR0 : rest 2 r.data.toList false false false false = R) :
    Calls Tryf.prog 8 #[.string s] w fun e w' => Ends R e ∧ Below w.heap.size w w' := by
  have hrs : r.size ≤ 100 := by rw [← hr]; simp; omega
  have HR0 : Hid (rest 2 r.data.toList false false false false = R) := hR0
  have HBY : Hid (∀ p (h : p < r.size), r[p].toNat < 128) := hby
  have HX : Hid (s.extract 2 s.size = r) := hr
  clear hR0 hby hr
  go_enter Tryf.func8, Tryf.ntmps8
  go_wp2_with fail
  refine (has2 _ _ hs).mono ?_
  rintro e w ⟨rfl, rfl⟩
  go_wp2
  go_quiet (fail)
  go_wp2
  rw [HX.out]
  go_loopw [4] (fun f wr => ∃ (pos : Nat) (c p t x : Bool), pos ≤ r.size ∧ f = .int .i64 (fl 2 c p t x) ∧ wr.heap[w.heap.size]? = some (.stringIter r pos) ∧ Below w.heap.size w wr ∧ rest 2 (r.data.toList.drop pos) c p t x = R) (fun _ wr => r.size - wr.iterPos w.heap.size)
  case atStart =>
    refine ⟨0, false, false, false, false, Nat.zero_le _, rfl, ?_, (below_drews (Below.refl _ w) nq).alloc (Nat.le_refl _) _, HR0.out⟩
    have := World.iter_heap (w.drewN nq) r 0
    simpa using this
  case round =>
    obtain ⟨pos, c, p, t, x, hpl, rfl, hit, hbw, hR⟩ := hrel
    have HR : Hid (rest 2 (r.data.toList.drop pos) c p t x = R) := hR
    clear hR
    by_cases hp : pos < r.size
    · have hb := HBY.out pos hp
      have hnx : ∀ ty, (Instr.next (.pointer (some ⟨w.heap.size, 0, none⟩)) true ty).run Tryf.prog wr = _ := fun ty => Lib.run_next_ascii_at wr w.heap.size r pos ty hit hp hb
      have hit2 := Lib.iterAt_heap wr w.heap.size r pos (pos + 1) hit
      have hbw2 := Lib.below_iterAt hbw (k := w.heap.size) (Nat.le_refl _) r (pos + 1)
      have hszw : w.heap.size < wr.heap.size := (Array.getElem?_eq_some_iff.1 hit).1
      have hsz2 : w.heap.size ≤ (wr.iterAt w.heap.size r (pos + 1)).heap.size := by rw [Lib.iterAt_size]; omega
      have HD : Hid (r.data.toList.drop pos = r[pos] :: r.data.toList.drop (pos + 1)) := drop_at r pos hp
      by_cases h99 : r[pos].toNat = 99
      · have e99 : ((r[pos].toNat : Int) == 99) = true := eqb_true h99
        cases c with
        | true =>
          have ha : (bits BinOp.and IntKind.i64 (fl 2 true p t x) 64 != 0) = true := and_c 2 (by omega) true p t x
          have H99 : Hid (r[pos].toNat = 99) := h99
          clear h99
          go_wp2_with fail
          refine (errorf_twice F _ (r[pos].toNat : Int) _ ?_ ?_).mono ?_
          · exact tape_of hF (hbw2.alloc hsz2 _)
          · simp
          rintro e w9 ⟨⟨u9, q9, rfl⟩, hb9⟩
          go_wp2
          go_ret2
          exact ⟨ends_none (by rw [← HR.out, HD.out]; exact rest_c_old _ _ _ _ _ _ H99.out), (hbw2.alloc hsz2 _).trans (hb9.mono (by simp; omega))⟩
        | false =>
          have ha : (bits BinOp.and IntKind.i64 (fl 2 false p t x) 64 != 0) = false := and_c 2 (by omega) false p t x
          have H99 : Hid (r[pos].toNat = 99) := h99
          clear h99
          go_wp2
          go_roundw
          case rel => exact ⟨pos + 1, true, p, t, x, by omega, by rw [or_c 2 (by omega)], hit2, hbw2, by rw [← HR.out, HD.out, rest_c_new _ _ _ _ _ _ H99.out]⟩
          case measure =>
            simp only [World.iterPos, hit2, hit]
            omega
      · have e99 : ((r[pos].toNat : Int) == 99) = false := eqb_false h99
        by_cases h97 : r[pos].toNat = 97
        · have e97 : ((r[pos].toNat : Int) == 97) = true := eqb_true h97
          cases p with
          | true =>
            have ha : (bits BinOp.and IntKind.i64 (fl 2 c true t x) 1024 != 0) = true := and_p 2 (by omega) c true t x
            have H97 : Hid (r[pos].toNat = 97) := h97
            clear h97
            go_wp2_with fail
            refine (errorf_twice F _ (r[pos].toNat : Int) _ ?_ ?_).mono ?_
            · exact tape_of hF (hbw2.alloc hsz2 _)
            · simp
            rintro e w9 ⟨⟨u9, q9, rfl⟩, hb9⟩
            go_wp2
            go_ret2
            exact ⟨ends_none (by rw [← HR.out, HD.out]; exact rest_p_old _ _ _ _ _ _ H97.out), (hbw2.alloc hsz2 _).trans (hb9.mono (by simp; omega))⟩
          | false =>
            have ha : (bits BinOp.and IntKind.i64 (fl 2 c false t x) 1024 != 0) = false := and_p 2 (by omega) c false t x
            have H97 : Hid (r[pos].toNat = 97) := h97
            clear h97
            go_wp2
            go_roundw
            case rel => exact ⟨pos + 1, c, true, t, x, by omega, by rw [or_p 2 (by omega)], hit2, hbw2, by rw [← HR.out, HD.out, rest_p_new _ _ _ _ _ _ H97.out]⟩
            case measure =>
              simp only [World.iterPos, hit2, hit]
              omega
        · have e97 : ((r[pos].toNat : Int) == 97) = false := eqb_false h97
          by_cases h116 : r[pos].toNat = 116
          · have e116 : ((r[pos].toNat : Int) == 116) = true := eqb_true h116
            cases t with
            | true =>
              have ha : (bits BinOp.and IntKind.i64 (fl 2 c p true x) 512 != 0) = true := and_t 2 (by omega) c p true x
              have H116 : Hid (r[pos].toNat = 116) := h116
              clear h116
              go_wp2_with fail
              refine (errorf_twice F _ (r[pos].toNat : Int) _ ?_ ?_).mono ?_
              · exact tape_of hF (hbw2.alloc hsz2 _)
              · simp
              rintro e w9 ⟨⟨u9, q9, rfl⟩, hb9⟩
              go_wp2
              go_ret2
              exact ⟨ends_none (by rw [← HR.out, HD.out]; exact rest_t_old _ _ _ _ _ _ H116.out), (hbw2.alloc hsz2 _).trans (hb9.mono (by simp; omega))⟩
            | false =>
              have ha : (bits BinOp.and IntKind.i64 (fl 2 c p false x) 512 != 0) = false := and_t 2 (by omega) c p false x
              have H116 : Hid (r[pos].toNat = 116) := h116
              clear h116
              go_wp2
              go_roundw
              case rel => exact ⟨pos + 1, c, p, true, x, by omega, by rw [or_t 2 (by omega)], hit2, hbw2, by rw [← HR.out, HD.out, rest_t_new _ _ _ _ _ _ H116.out]⟩
              case measure =>
                simp only [World.iterPos, hit2, hit]
                omega
          · have e116 : ((r[pos].toNat : Int) == 116) = false := eqb_false h116
            by_cases h120 : r[pos].toNat = 120
            · have e120 : ((r[pos].toNat : Int) == 120) = true := eqb_true h120
              cases x with
              | true =>
                have ha : (bits BinOp.and IntKind.i64 (fl 2 c p t true) 128 != 0) = true := and_x 2 (by omega) c p t true
                have H120 : Hid (r[pos].toNat = 120) := h120
                clear h120
                go_wp2_with fail
                refine (errorf_twice F _ (r[pos].toNat : Int) _ ?_ ?_).mono ?_
                · exact tape_of hF (hbw2.alloc hsz2 _)
                · simp
                rintro e w9 ⟨⟨u9, q9, rfl⟩, hb9⟩
                go_wp2
                go_ret2
                exact ⟨ends_none (by rw [← HR.out, HD.out]; exact rest_x_old _ _ _ _ _ _ H120.out), (hbw2.alloc hsz2 _).trans (hb9.mono (by simp; omega))⟩
              | false =>
                have ha : (bits BinOp.and IntKind.i64 (fl 2 c p t false) 128 != 0) = false := and_x 2 (by omega) c p t false
                have H120 : Hid (r[pos].toNat = 120) := h120
                clear h120
                go_wp2
                go_roundw
                case rel => exact ⟨pos + 1, c, p, t, true, by omega, by rw [or_x 2 (by omega)], hit2, hbw2, by rw [← HR.out, HD.out, rest_x_new _ _ _ _ _ _ H120.out]⟩
                case measure =>
                  simp only [World.iterPos, hit2, hit]
                  omega
            · have e120 : ((r[pos].toNat : Int) == 120) = false := eqb_false h120
              have HN : Hid (r[pos].toNat ≠ 99 ∧ r[pos].toNat ≠ 97 ∧ r[pos].toNat ≠ 116 ∧ r[pos].toNat ≠ 120) := ⟨h99, h97, h116, h120⟩
              clear h99 h97 h116 h120
              go_wp2_with fail
              refine (errorf_unknown F _ (r[pos].toNat : Int) _ ?_ ?_).mono ?_
              · exact tape_of hF (hbw2.alloc hsz2 _)
              · simp
              rintro e w9 ⟨⟨u9, q9, rfl⟩, hb9⟩
              go_wp2
              go_ret2
              exact ⟨ends_none (by rw [← HR.out, HD.out]; exact rest_other _ _ _ _ _ _ _ HN.out.1 HN.out.2.1 HN.out.2.2.1 HN.out.2.2.2), (hbw2.alloc hsz2 _).trans (hb9.mono (by simp; omega))⟩
    · have hnx : ∀ ty, (Instr.next (.pointer (some ⟨w.heap.size, 0, none⟩)) true ty).run Tryf.prog wr = _ := fun ty => Lib.run_next_end_at wr w.heap.size r pos ty hit hp
      go_wp2
      go_ret2
      refine ⟨ends_some ?_, hbw⟩
      rw [← HR.out, List.drop_eq_nil_of_le (by simp; omega)]
      rfl

set_option maxHeartbeats 4000000 in
theorem parse_r (F : Interp) (s r : ByteArray) (w : World) (hF : F.answers w.tape) (hs : s.size ≤ 100) (h1 : 1 ≤ s.size) (ho : opens [114, 119] s = false) (ho2 : opens [114] s = true) (hr : s.extract 1 s.size = r) (hby : ∀ p (h : p < r.size), r[p].toNat < 128) (R : Option Int) (hR0 : rest 0 r.data.toList false false false false = R) :
    Calls Tryf.prog 8 #[.string s] w fun e w' => Ends R e ∧ Below w.heap.size w w' := by
  have hrs : r.size ≤ 100 := by rw [← hr]; simp; omega
  have HR0 : Hid (rest 0 r.data.toList false false false false = R) := hR0
  have HBY : Hid (∀ p (h : p < r.size), r[p].toNat < 128) := hby
  have HX : Hid (s.extract 1 s.size = r) := hr
  clear hR0 hby hr
  go_enter Tryf.func8, Tryf.ntmps8
  go_wp2_with fail
  refine (has2 _ _ hs).mono ?_
  rintro e w ⟨rfl, rfl⟩
  go_wp2_with fail
  refine (hasR _ _ hs).mono ?_
  rintro e w ⟨rfl, rfl⟩
  go_wp2
  go_quiet (fail)
  go_wp2
  rw [HX.out]
  go_loopw [4] (fun f wr => ∃ (pos : Nat) (c p t x : Bool), pos ≤ r.size ∧ f = .int .i64 (fl 0 c p t x) ∧ wr.heap[w.heap.size]? = some (.stringIter r pos) ∧ Below w.heap.size w wr ∧ rest 0 (r.data.toList.drop pos) c p t x = R) (fun _ wr => r.size - wr.iterPos w.heap.size)
  case atStart =>
    refine ⟨0, false, false, false, false, Nat.zero_le _, rfl, ?_, (below_drews (Below.refl _ w) nq).alloc (Nat.le_refl _) _, HR0.out⟩
    have := World.iter_heap (w.drewN nq) r 0
    simpa using this
  case round =>
    obtain ⟨pos, c, p, t, x, hpl, rfl, hit, hbw, hR⟩ := hrel
    have HR : Hid (rest 0 (r.data.toList.drop pos) c p t x = R) := hR
    clear hR
    by_cases hp : pos < r.size
    · have hb := HBY.out pos hp
      have hnx : ∀ ty, (Instr.next (.pointer (some ⟨w.heap.size, 0, none⟩)) true ty).run Tryf.prog wr = _ := fun ty => Lib.run_next_ascii_at wr w.heap.size r pos ty hit hp hb
      have hit2 := Lib.iterAt_heap wr w.heap.size r pos (pos + 1) hit
      have hbw2 := Lib.below_iterAt hbw (k := w.heap.size) (Nat.le_refl _) r (pos + 1)
      have hszw : w.heap.size < wr.heap.size := (Array.getElem?_eq_some_iff.1 hit).1
      have hsz2 : w.heap.size ≤ (wr.iterAt w.heap.size r (pos + 1)).heap.size := by rw [Lib.iterAt_size]; omega
      have HD : Hid (r.data.toList.drop pos = r[pos] :: r.data.toList.drop (pos + 1)) := drop_at r pos hp
      by_cases h99 : r[pos].toNat = 99
      · have e99 : ((r[pos].toNat : Int) == 99) = true := eqb_true h99
        cases c with
        | true =>
          have ha : (bits BinOp.and IntKind.i64 (fl 0 true p t x) 64 != 0) = true := and_c 0 (by omega) true p t x
          have H99 : Hid (r[pos].toNat = 99) := h99
          clear h99
          go_wp2_with fail
          refine (errorf_twice F _ (r[pos].toNat : Int) _ ?_ ?_).mono ?_
          · exact tape_of hF (hbw2.alloc hsz2 _)
          · simp
          rintro e w9 ⟨⟨u9, q9, rfl⟩, hb9⟩
          go_wp2
          go_ret2
          exact ⟨ends_none (by rw [← HR.out, HD.out]; exact rest_c_old _ _ _ _ _ _ H99.out), (hbw2.alloc hsz2 _).trans (hb9.mono (by simp; omega))⟩
        | false =>
          have ha : (bits BinOp.and IntKind.i64 (fl 0 false p t x) 64 != 0) = false := and_c 0 (by omega) false p t x
          have H99 : Hid (r[pos].toNat = 99) := h99
          clear h99
          go_wp2
          go_roundw
          case rel => exact ⟨pos + 1, true, p, t, x, by omega, by rw [or_c 0 (by omega)], hit2, hbw2, by rw [← HR.out, HD.out, rest_c_new _ _ _ _ _ _ H99.out]⟩
          case measure =>
            simp only [World.iterPos, hit2, hit]
            omega
      · have e99 : ((r[pos].toNat : Int) == 99) = false := eqb_false h99
        by_cases h97 : r[pos].toNat = 97
        · have e97 : ((r[pos].toNat : Int) == 97) = true := eqb_true h97
          cases p with
          | true =>
            have ha : (bits BinOp.and IntKind.i64 (fl 0 c true t x) 1024 != 0) = true := and_p 0 (by omega) c true t x
            have H97 : Hid (r[pos].toNat = 97) := h97
            clear h97
            go_wp2_with fail
            refine (errorf_twice F _ (r[pos].toNat : Int) _ ?_ ?_).mono ?_
            · exact tape_of hF (hbw2.alloc hsz2 _)
            · simp
            rintro e w9 ⟨⟨u9, q9, rfl⟩, hb9⟩
            go_wp2
            go_ret2
            exact ⟨ends_none (by rw [← HR.out, HD.out]; exact rest_p_old _ _ _ _ _ _ H97.out), (hbw2.alloc hsz2 _).trans (hb9.mono (by simp; omega))⟩
          | false =>
            have ha : (bits BinOp.and IntKind.i64 (fl 0 c false t x) 1024 != 0) = false := and_p 0 (by omega) c false t x
            have H97 : Hid (r[pos].toNat = 97) := h97
            clear h97
            go_wp2
            go_roundw
            case rel => exact ⟨pos + 1, c, true, t, x, by omega, by rw [or_p 0 (by omega)], hit2, hbw2, by rw [← HR.out, HD.out, rest_p_new _ _ _ _ _ _ H97.out]⟩
            case measure =>
              simp only [World.iterPos, hit2, hit]
              omega
        · have e97 : ((r[pos].toNat : Int) == 97) = false := eqb_false h97
          by_cases h116 : r[pos].toNat = 116
          · have e116 : ((r[pos].toNat : Int) == 116) = true := eqb_true h116
            cases t with
            | true =>
              have ha : (bits BinOp.and IntKind.i64 (fl 0 c p true x) 512 != 0) = true := and_t 0 (by omega) c p true x
              have H116 : Hid (r[pos].toNat = 116) := h116
              clear h116
              go_wp2_with fail
              refine (errorf_twice F _ (r[pos].toNat : Int) _ ?_ ?_).mono ?_
              · exact tape_of hF (hbw2.alloc hsz2 _)
              · simp
              rintro e w9 ⟨⟨u9, q9, rfl⟩, hb9⟩
              go_wp2
              go_ret2
              exact ⟨ends_none (by rw [← HR.out, HD.out]; exact rest_t_old _ _ _ _ _ _ H116.out), (hbw2.alloc hsz2 _).trans (hb9.mono (by simp; omega))⟩
            | false =>
              have ha : (bits BinOp.and IntKind.i64 (fl 0 c p false x) 512 != 0) = false := and_t 0 (by omega) c p false x
              have H116 : Hid (r[pos].toNat = 116) := h116
              clear h116
              go_wp2
              go_roundw
              case rel => exact ⟨pos + 1, c, p, true, x, by omega, by rw [or_t 0 (by omega)], hit2, hbw2, by rw [← HR.out, HD.out, rest_t_new _ _ _ _ _ _ H116.out]⟩
              case measure =>
                simp only [World.iterPos, hit2, hit]
                omega
          · have e116 : ((r[pos].toNat : Int) == 116) = false := eqb_false h116
            by_cases h120 : r[pos].toNat = 120
            · have e120 : ((r[pos].toNat : Int) == 120) = true := eqb_true h120
              cases x with
              | true =>
                have ha : (bits BinOp.and IntKind.i64 (fl 0 c p t true) 128 != 0) = true := and_x 0 (by omega) c p t true
                have H120 : Hid (r[pos].toNat = 120) := h120
                clear h120
                go_wp2_with fail
                refine (errorf_twice F _ (r[pos].toNat : Int) _ ?_ ?_).mono ?_
                · exact tape_of hF (hbw2.alloc hsz2 _)
                · simp
                rintro e w9 ⟨⟨u9, q9, rfl⟩, hb9⟩
                go_wp2
                go_ret2
                exact ⟨ends_none (by rw [← HR.out, HD.out]; exact rest_x_old _ _ _ _ _ _ H120.out), (hbw2.alloc hsz2 _).trans (hb9.mono (by simp; omega))⟩
              | false =>
                have ha : (bits BinOp.and IntKind.i64 (fl 0 c p t false) 128 != 0) = false := and_x 0 (by omega) c p t false
                have H120 : Hid (r[pos].toNat = 120) := h120
                clear h120
                go_wp2
                go_roundw
                case rel => exact ⟨pos + 1, c, p, t, true, by omega, by rw [or_x 0 (by omega)], hit2, hbw2, by rw [← HR.out, HD.out, rest_x_new _ _ _ _ _ _ H120.out]⟩
                case measure =>
                  simp only [World.iterPos, hit2, hit]
                  omega
            · have e120 : ((r[pos].toNat : Int) == 120) = false := eqb_false h120
              have HN : Hid (r[pos].toNat ≠ 99 ∧ r[pos].toNat ≠ 97 ∧ r[pos].toNat ≠ 116 ∧ r[pos].toNat ≠ 120) := ⟨h99, h97, h116, h120⟩
              clear h99 h97 h116 h120
              go_wp2_with fail
              refine (errorf_unknown F _ (r[pos].toNat : Int) _ ?_ ?_).mono ?_
              · exact tape_of hF (hbw2.alloc hsz2 _)
              · simp
              rintro e w9 ⟨⟨u9, q9, rfl⟩, hb9⟩
              go_wp2
              go_ret2
              exact ⟨ends_none (by rw [← HR.out, HD.out]; exact rest_other _ _ _ _ _ _ _ HN.out.1 HN.out.2.1 HN.out.2.2.1 HN.out.2.2.2), (hbw2.alloc hsz2 _).trans (hb9.mono (by simp; omega))⟩
    · have hnx : ∀ ty, (Instr.next (.pointer (some ⟨w.heap.size, 0, none⟩)) true ty).run Tryf.prog wr = _ := fun ty => Lib.run_next_end_at wr w.heap.size r pos ty hit hp
      go_wp2
      go_ret2
      refine ⟨ends_some ?_, hbw⟩
      rw [← HR.out, List.drop_eq_nil_of_le (by simp; omega)]
      rfl

set_option maxHeartbeats 4000000 in
theorem parse_w (F : Interp) (s r : ByteArray) (w : World) (hF : F.answers w.tape) (hs : s.size ≤ 100) (h1 : 1 ≤ s.size) (ho : opens [114, 119] s = false) (ho2 : opens [114] s = false) (ho3 : opens [119] s = true) (hr : s.extract 1 s.size = r) (hby : ∀ p (h : p < r.size), r[p].toNat < 128) (R : Option Int) (hR0 : rest 1 r.data.toList false false false false = R) :
    Calls Tryf.prog 8 #[.string s] w fun e w' => Ends R e ∧ Below w.heap.size w w' := by
  have hrs : r.size ≤ 100 := by rw [← hr]; simp; omega
  have HR0 : Hid (rest 1 r.data.toList false false false false = R) := hR0
  have HBY : Hid (∀ p (h : p < r.size), r[p].toNat < 128) := hby
  have HX : Hid (s.extract 1 s.size = r) := hr
  clear hR0 hby hr
  go_enter Tryf.func8, Tryf.ntmps8
  go_wp2_with fail
  refine (has2 _ _ hs).mono ?_
  rintro e w ⟨rfl, rfl⟩
  go_wp2_with fail
  refine (hasR _ _ hs).mono ?_
  rintro e w ⟨rfl, rfl⟩
  go_wp2_with fail
  refine (hasW _ _ hs).mono ?_
  rintro e w ⟨rfl, rfl⟩
  go_wp2
  go_quiet (fail)
  go_wp2
  rw [HX.out]
  go_loopw [4] (fun f wr => ∃ (pos : Nat) (c p t x : Bool), pos ≤ r.size ∧ f = .int .i64 (fl 1 c p t x) ∧ wr.heap[w.heap.size]? = some (.stringIter r pos) ∧ Below w.heap.size w wr ∧ rest 1 (r.data.toList.drop pos) c p t x = R) (fun _ wr => r.size - wr.iterPos w.heap.size)
  case atStart =>
    refine ⟨0, false, false, false, false, Nat.zero_le _, rfl, ?_, (below_drews (Below.refl _ w) nq).alloc (Nat.le_refl _) _, HR0.out⟩
    have := World.iter_heap (w.drewN nq) r 0
    simpa using this
  case round =>
    obtain ⟨pos, c, p, t, x, hpl, rfl, hit, hbw, hR⟩ := hrel
    have HR : Hid (rest 1 (r.data.toList.drop pos) c p t x = R) := hR
    clear hR
    by_cases hp : pos < r.size
    · have hb := HBY.out pos hp
      have hnx : ∀ ty, (Instr.next (.pointer (some ⟨w.heap.size, 0, none⟩)) true ty).run Tryf.prog wr = _ := fun ty => Lib.run_next_ascii_at wr w.heap.size r pos ty hit hp hb
      have hit2 := Lib.iterAt_heap wr w.heap.size r pos (pos + 1) hit
      have hbw2 := Lib.below_iterAt hbw (k := w.heap.size) (Nat.le_refl _) r (pos + 1)
      have hszw : w.heap.size < wr.heap.size := (Array.getElem?_eq_some_iff.1 hit).1
      have hsz2 : w.heap.size ≤ (wr.iterAt w.heap.size r (pos + 1)).heap.size := by rw [Lib.iterAt_size]; omega
      have HD : Hid (r.data.toList.drop pos = r[pos] :: r.data.toList.drop (pos + 1)) := drop_at r pos hp
      by_cases h99 : r[pos].toNat = 99
      · have e99 : ((r[pos].toNat : Int) == 99) = true := eqb_true h99
        cases c with
        | true =>
          have ha : (bits BinOp.and IntKind.i64 (fl 1 true p t x) 64 != 0) = true := and_c 1 (by omega) true p t x
          have H99 : Hid (r[pos].toNat = 99) := h99
          clear h99
          go_wp2_with fail
          refine (errorf_twice F _ (r[pos].toNat : Int) _ ?_ ?_).mono ?_
          · exact tape_of hF (hbw2.alloc hsz2 _)
          · simp
          rintro e w9 ⟨⟨u9, q9, rfl⟩, hb9⟩
          go_wp2
          go_ret2
          exact ⟨ends_none (by rw [← HR.out, HD.out]; exact rest_c_old _ _ _ _ _ _ H99.out), (hbw2.alloc hsz2 _).trans (hb9.mono (by simp; omega))⟩
        | false =>
          have ha : (bits BinOp.and IntKind.i64 (fl 1 false p t x) 64 != 0) = false := and_c 1 (by omega) false p t x
          have H99 : Hid (r[pos].toNat = 99) := h99
          clear h99
          go_wp2
          go_roundw
          case rel => exact ⟨pos + 1, true, p, t, x, by omega, by rw [or_c 1 (by omega)], hit2, hbw2, by rw [← HR.out, HD.out, rest_c_new _ _ _ _ _ _ H99.out]⟩
          case measure =>
            simp only [World.iterPos, hit2, hit]
            omega
      · have e99 : ((r[pos].toNat : Int) == 99) = false := eqb_false h99
        by_cases h97 : r[pos].toNat = 97
        · have e97 : ((r[pos].toNat : Int) == 97) = true := eqb_true h97
          cases p with
          | true =>
            have ha : (bits BinOp.and IntKind.i64 (fl 1 c true t x) 1024 != 0) = true := and_p 1 (by omega) c true t x
            have H97 : Hid (r[pos].toNat = 97) := h97
            clear h97
            go_wp2_with fail
            refine (errorf_twice F _ (r[pos].toNat : Int) _ ?_ ?_).mono ?_
            · exact tape_of hF (hbw2.alloc hsz2 _)
            · simp
            rintro e w9 ⟨⟨u9, q9, rfl⟩, hb9⟩
            go_wp2
            go_ret2
            exact ⟨ends_none (by rw [← HR.out, HD.out]; exact rest_p_old _ _ _ _ _ _ H97.out), (hbw2.alloc hsz2 _).trans (hb9.mono (by simp; omega))⟩
          | false =>
            have ha : (bits BinOp.and IntKind.i64 (fl 1 c false t x) 1024 != 0) = false := and_p 1 (by omega) c false t x
            have H97 : Hid (r[pos].toNat = 97) := h97
            clear h97
            go_wp2
            go_roundw
            case rel => exact ⟨pos + 1, c, true, t, x, by omega, by rw [or_p 1 (by omega)], hit2, hbw2, by rw [← HR.out, HD.out, rest_p_new _ _ _ _ _ _ H97.out]⟩
            case measure =>
              simp only [World.iterPos, hit2, hit]
              omega
        · have e97 : ((r[pos].toNat : Int) == 97) = false := eqb_false h97
          by_cases h116 : r[pos].toNat = 116
          · have e116 : ((r[pos].toNat : Int) == 116) = true := eqb_true h116
            cases t with
            | true =>
              have ha : (bits BinOp.and IntKind.i64 (fl 1 c p true x) 512 != 0) = true := and_t 1 (by omega) c p true x
              have H116 : Hid (r[pos].toNat = 116) := h116
              clear h116
              go_wp2_with fail
              refine (errorf_twice F _ (r[pos].toNat : Int) _ ?_ ?_).mono ?_
              · exact tape_of hF (hbw2.alloc hsz2 _)
              · simp
              rintro e w9 ⟨⟨u9, q9, rfl⟩, hb9⟩
              go_wp2
              go_ret2
              exact ⟨ends_none (by rw [← HR.out, HD.out]; exact rest_t_old _ _ _ _ _ _ H116.out), (hbw2.alloc hsz2 _).trans (hb9.mono (by simp; omega))⟩
            | false =>
              have ha : (bits BinOp.and IntKind.i64 (fl 1 c p false x) 512 != 0) = false := and_t 1 (by omega) c p false x
              have H116 : Hid (r[pos].toNat = 116) := h116
              clear h116
              go_wp2
              go_roundw
              case rel => exact ⟨pos + 1, c, p, true, x, by omega, by rw [or_t 1 (by omega)], hit2, hbw2, by rw [← HR.out, HD.out, rest_t_new _ _ _ _ _ _ H116.out]⟩
              case measure =>
                simp only [World.iterPos, hit2, hit]
                omega
          · have e116 : ((r[pos].toNat : Int) == 116) = false := eqb_false h116
            by_cases h120 : r[pos].toNat = 120
            · have e120 : ((r[pos].toNat : Int) == 120) = true := eqb_true h120
              cases x with
              | true =>
                have ha : (bits BinOp.and IntKind.i64 (fl 1 c p t true) 128 != 0) = true := and_x 1 (by omega) c p t true
                have H120 : Hid (r[pos].toNat = 120) := h120
                clear h120
                go_wp2_with fail
                refine (errorf_twice F _ (r[pos].toNat : Int) _ ?_ ?_).mono ?_
                · exact tape_of hF (hbw2.alloc hsz2 _)
                · simp
                rintro e w9 ⟨⟨u9, q9, rfl⟩, hb9⟩
                go_wp2
                go_ret2
                exact ⟨ends_none (by rw [← HR.out, HD.out]; exact rest_x_old _ _ _ _ _ _ H120.out), (hbw2.alloc hsz2 _).trans (hb9.mono (by simp; omega))⟩
              | false =>
                have ha : (bits BinOp.and IntKind.i64 (fl 1 c p t false) 128 != 0) = false := and_x 1 (by omega) c p t false
                have H120 : Hid (r[pos].toNat = 120) := h120
                clear h120
                go_wp2
                go_roundw
                case rel => exact ⟨pos + 1, c, p, t, true, by omega, by rw [or_x 1 (by omega)], hit2, hbw2, by rw [← HR.out, HD.out, rest_x_new _ _ _ _ _ _ H120.out]⟩
                case measure =>
                  simp only [World.iterPos, hit2, hit]
                  omega
            · have e120 : ((r[pos].toNat : Int) == 120) = false := eqb_false h120
              have HN : Hid (r[pos].toNat ≠ 99 ∧ r[pos].toNat ≠ 97 ∧ r[pos].toNat ≠ 116 ∧ r[pos].toNat ≠ 120) := ⟨h99, h97, h116, h120⟩
              clear h99 h97 h116 h120
              go_wp2_with fail
              refine (errorf_unknown F _ (r[pos].toNat : Int) _ ?_ ?_).mono ?_
              · exact tape_of hF (hbw2.alloc hsz2 _)
              · simp
              rintro e w9 ⟨⟨u9, q9, rfl⟩, hb9⟩
              go_wp2
              go_ret2
              exact ⟨ends_none (by rw [← HR.out, HD.out]; exact rest_other _ _ _ _ _ _ _ HN.out.1 HN.out.2.1 HN.out.2.2.1 HN.out.2.2.2), (hbw2.alloc hsz2 _).trans (hb9.mono (by simp; omega))⟩
    · have hnx : ∀ ty, (Instr.next (.pointer (some ⟨w.heap.size, 0, none⟩)) true ty).run Tryf.prog wr = _ := fun ty => Lib.run_next_end_at wr w.heap.size r pos ty hit hp
      go_wp2
      go_ret2
      refine ⟨ends_some ?_, hbw⟩
      rw [← HR.out, List.drop_eq_nil_of_le (by simp; omega)]
      rfl
end Go.Proofs.Qxb6002417aFmt
