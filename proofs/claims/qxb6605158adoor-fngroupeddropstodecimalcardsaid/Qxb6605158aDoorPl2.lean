/-
  Plain law of seat b6605158aD, second part: commas well placed; commas taken out; no Go in sight.
-/
import Derived.Test.Qxb6605158aDoorPlain
namespace Go.Proofs.Qxb6605158aDoor.Plain
open Go

def Dig (c : UInt8) : Prop := 48 ≤ c.toNat ∧ c.toNat ≤ 57
/-- three digits, then the end or a comma -/
def Good (l : List UInt8) : Prop := ∃ x y z r, l = x :: y :: z :: r ∧ Dig x ∧ Dig y ∧ Dig z ∧ (r = [] ∨ ∃ r', r = 44 :: r')
/-- behind every comma: Good -/
def okAt : List UInt8 → Prop
  | [] => True
  | c :: l => (c.toNat = 44 → Good l) ∧ okAt l

theorem dig_ne {c : UInt8} (h : Dig c) : c.toNat ≠ 44 := by unfold Dig at h; omega

theorem grp_zero (t : List UInt8) (h : t.length % 3 = 0) : grp t = [] ∨ ∃ r', grp t = 44 :: r' := by
  cases t with
  | nil => left; rfl
  | cons c t =>
    right
    have h' : (t.length + 1) % 3 = 0 := by simpa using h
    exact ⟨_, by rw [grp, if_pos h']; rfl⟩

theorem grp_ok : ∀ t : List UInt8, (∀ c ∈ t, Dig c) → okAt (grp t)
  | [], _ => trivial
  | c :: t, hd => by
    have ih := grp_ok t (fun x hx => hd x (List.mem_cons_of_mem _ hx))
    have hc : Dig c := hd c (List.mem_cons_self ..)
    unfold grp
    by_cases h : (t.length + 1) % 3 = 0
    · rw [if_pos h]
      refine ⟨fun _ => ?_, fun e => absurd e (dig_ne hc), ih⟩
      match t, h, hd with
      | [], h, _ => simp at h
      | [d], h, _ => simp at h
      | d :: e :: t', h, hd =>
        have h3 : t'.length % 3 = 0 := by simp at h; omega
        refine ⟨c, d, e, grp t', ?_, hc, hd d (by simp), hd e (by simp), grp_zero t' h3⟩
        have e1 : ¬ ((e :: t').length + 1) % 3 = 0 := by simp; omega
        have e2 : ¬ (t'.length + 1) % 3 = 0 := by omega
        rw [grp, if_neg e1, grp, if_neg e2]
        rfl
    · rw [if_neg h]
      exact ⟨fun e => absurd e (dig_ne hc), ih⟩

theorem grouped_ok (c : UInt8) (t : List UInt8) (hc : c.toNat ≠ 44) (hd : ∀ x ∈ t, Dig x) : okAt (grouped (c :: t)) :=
  ⟨fun e => absurd e hc, grp_ok t hd⟩

theorem okAt_at : ∀ (l : List UInt8) (i : Nat) (h : i < l.length), okAt l → (l[i]).toNat = 44 → Good (l.drop (i + 1))
  | [], i, h, _, _ => by simp at h
  | c :: l, 0, _, hok, e => hok.1 (by simpa using e)
  | c :: l, i + 1, h, hok, e => okAt_at l i (by simpa using h) hok.2 (by simpa using e)

theorem itoa_shape (n : Int) : ∃ c t, Lib.itoa n = c :: t ∧ c.toNat ≠ 44 ∧ ∀ x ∈ t, Dig x := by
  unfold Lib.itoa
  split
  · exact ⟨45, _, rfl, by decide, dec_digit _⟩
  · cases e : Lib.decDigits n.toNat with
    | nil => exact absurd e (dec_ne _)
    | cons c t =>
      have hd := dec_digit n.toNat
      rw [e] at hd
      exact ⟨c, t, rfl, dig_ne (hd c (List.mem_cons_self ..)), fun x hx => hd x (List.mem_cons_of_mem _ hx)⟩

/-- What zzCommasWellPlaced looks at, place by place. -/
structure Placed (s : ByteArray) (i : Nat) : Prop where
  pos : 0 < i
  room : i + 3 < s.size
  dig : ∀ j (h : j < s.size), i < j → j ≤ i + 3 → 48 ≤ s[j].toNat ∧ s[j].toNat ≤ 57
  next : ∀ (h : i + 4 < s.size), s[i + 4].toNat = 44

theorem good_at (l : List UInt8) (i : Nat) (hg : Good (l.drop (i + 1))) :
    i + 3 < l.length ∧ (∀ j (h : j < l.length), i < j → j ≤ i + 3 → Dig l[j]) ∧ ∀ (h : i + 4 < l.length), (l[i + 4]).toNat = 44 := by
  obtain ⟨x, y, z, r, hr, dx, dy, dz, hend⟩ := hg
  have hlen := congrArg List.length hr
  simp only [List.length_drop, List.length_cons] at hlen
  have hdrop : ∀ k, l[i + 1 + k]? = (x :: y :: z :: r)[k]? := fun k => by rw [← hr, List.getElem?_drop]
  refine ⟨by omega, ?_, ?_⟩
  · intro j hj h1 h2
    have h3 : j = i + 1 + 0 ∨ j = i + 1 + 1 ∨ j = i + 1 + 2 := by omega
    rcases h3 with rfl | rfl | rfl
    · have := hdrop 0
      rw [List.getElem?_eq_getElem hj] at this
      rw [Option.some.inj this]; exact dx
    · have := hdrop 1
      rw [List.getElem?_eq_getElem hj] at this
      rw [Option.some.inj this]; exact dy
    · have := hdrop 2
      rw [List.getElem?_eq_getElem hj] at this
      rw [Option.some.inj this]; exact dz
  · intro hj
    have h4 : i + 1 + 3 < l.length := by omega
    have hk := hdrop 3
    rw [List.getElem?_eq_getElem h4] at hk
    rcases hend with rfl | ⟨r', rfl⟩
    · cases hk
    · have e : l[i + 1 + 3] = 44 := Option.some.inj hk
      have e2 : l[i + 4] = l[i + 1 + 3] := by congr 1
      rw [e2, e]
      rfl

theorem placed_grouped (n : Int) (s : ByteArray) (hs : s.data.toList = grouped (Lib.itoa n)) (i : Nat) (h : i < s.size) (hc : s[i].toNat = 44) : Placed s i := by
  obtain ⟨c, t, e, hc0, hd⟩ := itoa_shape n
  have hok := grouped_ok c t hc0 hd
  have hl : s.data.toList.length = s.size := by simp
  have hget : ∀ j (h : j < s.size), s[j] = s.data.toList[j]'(by omega) := fun j h => by simp [ByteArray.getElem_eq_getElem_data]
  have h2 : s.data.toList = grouped (c :: t) := by rw [hs, e]
  rw [← h2] at hok
  rw [hget i h] at hc
  obtain ⟨g1, g2, g3⟩ := good_at _ i (okAt_at _ i (by omega) hok hc)
  refine ⟨?_, by omega, fun j hj h1 h3 => by rw [hget j hj]; exact g2 j (by omega) h1 h3, fun hj => by rw [hget _ hj]; exact g3 (by omega)⟩
  rcases Nat.eq_zero_or_pos i with h0 | h0
  · subst h0
    exfalso
    have h3 : s.data.toList = c :: grp t := h2
    apply hc0
    simpa only [h3, List.getElem_cons_zero] using hc
  · exact h0

theorem grp_strip : ∀ t : List UInt8, (∀ c ∈ t, Dig c) → (grp t).filter (fun c => decide (c.toNat ≠ 44)) = t
  | [], _ => rfl
  | c :: t, hd => by
    have ih := grp_strip t (fun x hx => hd x (List.mem_cons_of_mem _ hx))
    have hc := dig_ne (hd c (List.mem_cons_self ..))
    unfold grp
    split
    · simp only [List.cons_append, List.nil_append, List.filter_cons]
      rw [if_neg (by decide), if_pos (by simpa using hc), ih]
    · simp only [List.cons_append, List.nil_append, List.filter_cons]
      rw [if_pos (by simpa using hc), ih]

theorem grouped_strip (n : Int) : (grouped (Lib.itoa n)).filter (fun c => decide (c.toNat ≠ 44)) = Lib.itoa n := by
  obtain ⟨c, t, e, hc0, hd⟩ := itoa_shape n
  rw [e, grouped, List.filter_cons, if_pos (by simpa using hc0), grp_strip t hd]
end Go.Proofs.Qxb6605158aDoor.Plain
