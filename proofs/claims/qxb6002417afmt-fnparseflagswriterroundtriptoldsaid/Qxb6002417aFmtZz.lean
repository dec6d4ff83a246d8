/-
  Seat b6002417aF: the small callees of the law: ZZparseFlags, zzAccess, zzLetterStr, zzLetterFlag.
-/
import Derived.Test.Qxb6002417aFmtPf
import Derived.OwnWalk
namespace Go.Proofs.Qxb6002417aFmt
open Go.RowKit Go.Extern.Stop Go.Stop Go.Extern

set_option maxHeartbeats 400000 in
theorem zz_of (s : ByteArray) (R : Option Int) (w : World) (H : Hid (Calls Tryf.prog 8 #[.string s] w fun e w' => Ends R e ∧ Below w.heap.size w w')) :
    Calls Tryf.prog 7 #[.string s] w fun e w' => Ends R e ∧ Below w.heap.size w w' := by
  go_enter Tryf.func7, Tryf.ntmps7
  go_wp2_with fail
  refine H.out.mono ?_
  rintro e w1 ⟨he, hb⟩
  cases hR : R with
  | some f =>
    obtain rfl := he.1 f hR
    have HH : Hid (R = some f) := hR
    clear he hR H
    go_wp2
    go_ret2
    exact ⟨ends_some HH.out, hb⟩
  | none =>
    obtain ⟨u, q, rfl⟩ := he.2 hR
    have HH : Hid (R = none) := hR
    clear he hR H
    go_wp2
    go_ret2
    exact ⟨ends_none HH.out, hb⟩

/-- the access words and their flags -/
def word (a : Nat) : List UInt8 := if a = 0 then [114, 119] else if a = 1 then [114] else [119]
def accOf (a : Nat) : Nat := if a = 0 then 2 else if a = 1 then 0 else 1

theorem opens_of (p q : List UInt8) (s : ByteArray) (h : s.data.toList = q) : opens p s = (q.take p.length == p) := by
  unfold opens
  rw [ByteArray.toList_eq, ByteArray.data_extract, Array.toList_extract, List.extract_eq_take_drop, h]
  simp

theorem rest_of (s : ByteArray) (p l : List UInt8) (h : s.data.toList = p ++ l) : (s.extract p.length s.size).data.toList = l := by
  have hz : s.size = (p ++ l).length := by rw [← h]; simp
  rw [ByteArray.data_extract, Array.toList_extract, List.extract_eq_take_drop, h, hz]
  simp

theorem bytes_of (r : ByteArray) (l : List UInt8) (h : r.data.toList = l) (hl : ∀ b ∈ l, b.toNat < 128) : ∀ p (h : p < r.size), r[p].toNat < 128 := by
  intro p hp
  have h' : p < r.data.toList.length := by simpa using hp
  have e : r[p] = r.data.toList[p] := by simp [ByteArray.getElem_eq_getElem_data]
  rw [e]
  refine hl _ ?_
  rw [← h]
  exact List.getElem_mem h'

theorem parse_word (F : Interp) (a : Nat) (ha : a ≤ 2) (l : List UInt8) (s : ByteArray) (hs : s.data.toList = word a ++ l) (hl : l.length ≤ 20) (hb : ∀ b ∈ l, b.toNat < 128) (hw : a = 1 → l.take 1 ≠ [119]) (w : World) (hF : F.answers w.tape) :
    Calls Tryf.prog 7 #[.string s] w fun e w' => Ends (rest (accOf a) l false false false false) e ∧ Below w.heap.size w w' := by
  have hz : s.size = (word a).length + l.length := by
    have : s.size = s.data.toList.length := by simp
    rw [this, hs, List.length_append]
  have h3 : a = 0 ∨ a = 1 ∨ a = 2 := by omega
  refine zz_of s _ w ?_
  rcases h3 with rfl | rfl | rfl
  · have hz2 : s.size = 2 + l.length := hz
    have hr := rest_of s [114, 119] l hs
    refine parse_rw F s _ w hF (by omega) (by omega) ?_ rfl (bytes_of _ l hr hb) _ ?_
    · rw [opens_of _ _ s hs]; rfl
    · have hr' : (s.extract 2 s.size).data.toList = l := hr
      rw [hr']; rfl
  · have hz2 : s.size = 1 + l.length := hz
    have hr := rest_of s [114] l hs
    refine parse_r F s _ w hF (by omega) (by omega) ?_ ?_ rfl (bytes_of _ l hr hb) _ ?_
    · rw [opens_of _ _ s hs]
      have h1 := hw rfl
      rw [Bool.eq_false_iff]
      intro e
      apply h1
      cases l with
      | nil => simp [word] at e
      | cons b l =>
        simp [word] at e
        simp [e]
    · rw [opens_of _ _ s hs]; rfl
    · have hr' : (s.extract 1 s.size).data.toList = l := hr
      rw [hr']; rfl
  · have hz2 : s.size = 1 + l.length := hz
    have hr := rest_of s [119] l hs
    refine parse_w F s _ w hF (by omega) (by omega) ?_ ?_ ?_ rfl (bytes_of _ l hr hb) _ ?_
    · rw [opens_of _ _ s hs]
      cases l with
      | nil => rfl
      | cons b l => simp [word]
    · rw [opens_of _ _ s hs]; rfl
    · rw [opens_of _ _ s hs]; rfl
    · have hr' : (s.extract 1 s.size).data.toList = l := hr
      rw [hr']; rfl

section
set_option maxHeartbeats 400000
theorem access0 (w : World) : Calls Tryf.prog 4 #[.int .i64 0] w fun e w' => e = .returned (.tuple #[.string ⟨#[114, 119]⟩, .int .i64 2]) ∧ w' = w := by
  go_enter Tryf.func4, Tryf.ntmps4
  go_wp2
  go_ret2
  exact ⟨rfl, rfl⟩
theorem access1 (w : World) : Calls Tryf.prog 4 #[.int .i64 1] w fun e w' => e = .returned (.tuple #[.string ⟨#[114]⟩, .int .i64 0]) ∧ w' = w := by
  go_enter Tryf.func4, Tryf.ntmps4
  go_wp2
  go_ret2
  exact ⟨rfl, rfl⟩
theorem access2 (w : World) : Calls Tryf.prog 4 #[.int .i64 2] w fun e w' => e = .returned (.tuple #[.string ⟨#[119]⟩, .int .i64 1]) ∧ w' = w := by
  go_enter Tryf.func4, Tryf.ntmps4
  go_wp2
  go_ret2
  exact ⟨rfl, rfl⟩
end

/-- the letters and their flags -/
def letter (k : Nat) : UInt8 := if k = 0 then 99 else if k = 1 then 97 else if k = 2 then 116 else 120
def lflag (k : Nat) : Int := if k = 0 then 64 else if k = 1 then 1024 else if k = 2 then 512 else 128
def lstr (k : Nat) : ByteArray := ⟨#[letter k]⟩

section
set_option maxHeartbeats 400000
theorem letterStr (k : Nat) (h : k < 4) (w : World) : Calls Tryf.prog 5 #[.int .i64 (k : Int)] w fun e w' => e = .returned (.string (lstr k)) ∧ w' = w := by
  have h4 : k = 0 ∨ k = 1 ∨ k = 2 ∨ k = 3 := by omega
  rcases h4 with rfl | rfl | rfl | rfl
  all_goals
    go_enter Tryf.func5, Tryf.ntmps5
    go_wp2
    go_ret
    exact ⟨rfl, rfl⟩
theorem letterFlag (k : Nat) (h : k < 4) (w : World) : Calls Tryf.prog 6 #[.int .i64 (k : Int)] w fun e w' => e = .returned (.int .i64 (lflag k)) ∧ w' = w := by
  have h4 : k = 0 ∨ k = 1 ∨ k = 2 ∨ k = 3 := by omega
  rcases h4 with rfl | rfl | rfl | rfl
  all_goals
    go_enter Tryf.func6, Tryf.ntmps6
    go_wp2
    go_ret
    exact ⟨rfl, rfl⟩
end
end Go.Proofs.Qxb6002417aFmt
