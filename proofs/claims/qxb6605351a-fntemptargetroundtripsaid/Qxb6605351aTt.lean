/-
  The contracts of the functions on the road of durable.TempTarget (seat b6605351a): each Go function by what it returns; the world stands.
-/
import Derived.Test.Qxb6605351aRows
import Derived.WalkKit
import Derived.ProofKit
namespace Go.Proofs.Qxb6605351a.Tt
open Go.ChangeShapes Go.WideShapes Go.ChangeAt Go.RowKit

theorem ret_int {k : IntKind} {a b : Int} (h : a = b) : Ending.returned (.int k a) = .returned (.int k b) := by rw [h]

set_option maxHeartbeats 400000 in
theorem lib_any (s : ByteArray) (w : World) (hs : s.size ≤ maxLen) :
    Calls Try.prog 11 #[.string s, .int .u8 46] w fun e w' => (∃ k : Int, e = .returned (.int .i64 k)) ∧ w' = w := by
  unfold maxLen at hs
  go_enter Try.func11, Try.ntmps11
  go_wp2
  go_loop [5] (fun i => ∃ k : Nat, k ≤ s.size ∧ i = .int .i64 ((k : Int) - 1)) (fun i => (intOf i + 1).toNat)
  case atStart => exact ⟨s.size, Nat.le_refl _, rfl⟩
  case round =>
    obtain ⟨k, hk, rfl⟩ := hrel
    by_cases hlt : 0 < k
    · obtain ⟨m, rfl⟩ : ∃ m, k = m + 1 := ⟨k - 1, by omega⟩
      go_wp2
      · go_ret
        exact ⟨⟨_, rfl⟩, rfl⟩
      · go_round
        case rel => exact ⟨m, by omega, rfl⟩
        case measure => simp [intOf]
    · go_wp2
      go_ret
      exact ⟨⟨_, rfl⟩, rfl⟩

set_option maxHeartbeats 400000 in
theorem lib_hit (s : ByteArray) (w : World) (hs : s.size ≤ maxLen) (t : Nat) (ht : t < s.size) (hc : ((s[t].toNat : Int) == 46) = true)
    (hn : ∀ j (h : j < s.size), t < j → ((s[j].toNat : Int) == 46) = false) :
    Calls Try.prog 11 #[.string s, .int .u8 46] w fun e w' => e = .returned (.int .i64 t) ∧ w' = w := by
  unfold maxLen at hs
  have HN : Hid (∀ j (h : j < s.size), t < j → ((s[j].toNat : Int) == 46) = false) := hn
  clear hn
  go_enter Try.func11, Try.ntmps11
  go_wp2
  go_loop [5] (fun i => ∃ k : Nat, t < k ∧ k ≤ s.size ∧ i = .int .i64 ((k : Int) - 1)) (fun i => (intOf i + 1).toNat)
  case atStart => exact ⟨s.size, ht, Nat.le_refl _, rfl⟩
  case round =>
    obtain ⟨k, hk0, hk, rfl⟩ := hrel
    obtain ⟨m, rfl⟩ : ∃ m, k = m + 1 := ⟨k - 1, by omega⟩
    by_cases hlt : t < m
    · have hno := HN.out m (by omega) hlt
      go_wp2
      go_round
      case rel => exact ⟨m, by omega, by omega, rfl⟩
      case measure => simp [intOf]
    · obtain rfl : m = t := by omega
      go_wp2
      go_ret
      exact ⟨rfl, rfl⟩

set_option maxHeartbeats 400000 in
theorem lastIndex_any (s : ByteArray) (w : World) (hs : s.size ≤ maxLen) :
    Calls Try.prog 9 #[.string s, .int .u8 46] w fun e w' => (∃ k : Int, e = .returned (.int .i64 k)) ∧ w' = w := by
  go_enter Try.func9, Try.ntmps9
  go_wp2_with (go_at_call 11; refine (lib_any _ _ hs).mono ?_; rintro e w' ⟨⟨k, rfl⟩, rfl⟩)
  go_ret
  exact ⟨⟨_, rfl⟩, rfl⟩

set_option maxHeartbeats 400000 in
theorem lastIndex_hit (s : ByteArray) (w : World) (hs : s.size ≤ maxLen) (t : Nat) (ht : t < s.size) (hc : ((s[t].toNat : Int) == 46) = true)
    (hn : ∀ j (h : j < s.size), t < j → ((s[j].toNat : Int) == 46) = false) :
    Calls Try.prog 9 #[.string s, .int .u8 46] w fun e w' => e = .returned (.int .i64 t) ∧ w' = w := by
  have HH : Hid (Calls Try.prog 11 #[.string s, .int .u8 46] w fun e w' => e = .returned (.int .i64 t) ∧ w' = w) := lib_hit s w hs t ht hc hn
  clear hn hc
  go_enter Try.func9, Try.ntmps9
  go_wp2_with (go_at_call 11; refine HH.out.mono ?_; rintro e w' ⟨rfl, rfl⟩)
  go_ret
  exact ⟨rfl, rfl⟩

def dotted (s : ByteArray) : Bool := (s.extract 0 1).toList == [46]

set_option maxHeartbeats 400000 in
theorem hasPrefix_any (s : ByteArray) (w : World) (hs : s.size ≤ maxLen) :
    Calls Try.prog 12 #[.string s, .string ⟨#[46]⟩] w fun e w' => e = .returned (.bool (dotted s)) ∧ w' = w := by
  unfold maxLen at hs
  go_enter Try.func12, Try.ntmps12
  go_wp2
  · go_ret
    exact ⟨rfl, rfl⟩
  · go_ret
    refine ⟨?_, rfl⟩
    have : s.size = 0 := by omega
    have e : s = ByteArray.empty := by exact ByteArray.size_eq_zero_iff.mp this
    subst e
    have e2 : dotted ByteArray.empty = false := by unfold dotted; rw [ByteArray.toList_eq]; decide
    rw [e2]
    rfl

set_option maxHeartbeats 400000 in
theorem cutLite_yes (s : ByteArray) (w : World) (hs : s.size ≤ maxLen) (hd : dotted s = true) (h1 : 1 ≤ s.size) :
    Calls Try.prog 10 #[.string s, .string ⟨#[46]⟩] w fun e w' => e = .returned (.tuple #[.string (s.extract 1 s.size), .bool true]) ∧ w' = w := by
  have hs' := hs
  unfold maxLen at hs'
  go_enter Try.func10, Try.ntmps10
  go_wp2_with (go_at_call 12; refine (hasPrefix_any _ _ hs).mono ?_; rintro e w' ⟨rfl, rfl⟩)
  go_ret2
  exact ⟨rfl, rfl⟩

set_option maxHeartbeats 400000 in
theorem cutLite_no (s : ByteArray) (w : World) (hs : s.size ≤ maxLen) (hd : dotted s = false) :
    Calls Try.prog 10 #[.string s, .string ⟨#[46]⟩] w fun e w' => e = .returned (.tuple #[.string s, .bool false]) ∧ w' = w := by
  have hs' := hs
  unfold maxLen at hs'
  go_enter Try.func10, Try.ntmps10
  go_wp2_with (go_at_call 12; refine (hasPrefix_any _ _ hs).mono ?_; rintro e w' ⟨rfl, rfl⟩)
  go_ret2
  exact ⟨rfl, rfl⟩

set_option maxHeartbeats 400000 in
theorem cut_yes (s : ByteArray) (w : World) (hs : s.size ≤ maxLen) (hd : dotted s = true) (h1 : 1 ≤ s.size) :
    Calls Try.prog 8 #[.string s, .string ⟨#[46]⟩] w fun e w' => e = .returned (.tuple #[.string (s.extract 1 s.size), .bool true]) ∧ w' = w := by
  go_enter Try.func8, Try.ntmps8
  go_wp2_with (go_at_call 10; refine (cutLite_yes _ _ hs hd h1).mono ?_; rintro e w' ⟨rfl, rfl⟩)
  go_ret2
  exact ⟨rfl, rfl⟩

set_option maxHeartbeats 400000 in
theorem cut_no (s : ByteArray) (w : World) (hs : s.size ≤ maxLen) (hd : dotted s = false) :
    Calls Try.prog 8 #[.string s, .string ⟨#[46]⟩] w fun e w' => e = .returned (.tuple #[.string s, .bool false]) ∧ w' = w := by
  go_enter Try.func8, Try.ntmps8
  go_wp2_with (go_at_call 10; refine (cutLite_no _ _ hs hd).mono ?_; rintro e w' ⟨rfl, rfl⟩)
  go_ret2
  exact ⟨rfl, rfl⟩

set_option maxHeartbeats 400000 in
theorem temp_no (s : ByteArray) (w : World) (hs : s.size ≤ maxLen) (hd : dotted s = false) :
    Calls Try.prog 6 #[.string s] w fun e w' => e = .returned (.tuple #[.string ⟨#[]⟩, .bool false]) ∧ w' = w := by
  go_enter Try.func6, Try.ntmps6
  go_wp2_with (first | (go_at_call 8; refine (cut_no _ _ hs hd).mono ?_; rintro e w' ⟨rfl, rfl⟩) | (go_at_call 9; refine (lastIndex_any _ _ hs).mono ?_; rintro e w' ⟨⟨k, rfl⟩, rfl⟩))
  go_ret2
  exact ⟨rfl, rfl⟩

set_option maxHeartbeats 400000 in
theorem temp_yes (s r : ByteArray) (w : World) (hs : s.size ≤ maxLen) (hd : dotted s = true) (h1 : 1 ≤ s.size) (hr : s.extract 1 s.size = r) (hrs : r.size ≤ maxLen) (t : Nat) (h0 : 0 < t) (ht : t + 1 < r.size) (hc : ((r[t].toNat : Int) == 46) = true)
    (hn : ∀ j (h : j < r.size), t < j → ((r[j].toNat : Int) == 46) = false) :
    Calls Try.prog 6 #[.string s] w fun e w' => e = .returned (.tuple #[.string (r.extract 0 t), .bool true]) ∧ w' = w := by
  have HH : Hid (Calls Try.prog 9 #[.string r, .int .u8 46] w fun e w' => e = .returned (.int .i64 t) ∧ w' = w) := lastIndex_hit r w hrs t (by omega) hc hn
  have HC : Hid (Calls Try.prog 8 #[.string s, .string ⟨#[46]⟩] w fun e w' => e = .returned (.tuple #[.string r, .bool true]) ∧ w' = w) := by
    have := cut_yes s w hs hd h1
    rw [hr] at this
    exact this
  clear hn hc hr hd
  unfold maxLen at hrs hs
  go_enter Try.func6, Try.ntmps6
  go_wp2_with (first | (go_at_call 8; refine HC.out.mono ?_; rintro e w' ⟨rfl, rfl⟩) | (go_at_call 9; refine HH.out.mono ?_; rintro e w' ⟨rfl, rfl⟩))
  go_ret2
  exact ⟨rfl, rfl⟩

set_option maxHeartbeats 400000 in
theorem bytes_yes (a b : ByteArray) (w : World) (h : a.size + b.size ≤ 1048576) :
    Calls Try.prog 5 #[.string a, .string b] w fun e w' => e = .returned (.bool true) ∧ w' = w := by
  go_enter Try.func5, Try.ntmps5
  go_wp2
  go_ret
  exact ⟨rfl, rfl⟩

set_option maxHeartbeats 400000 in
theorem bytes_no (a b : ByteArray) (w : World) (ha : a.size ≤ maxLen) (hb : b.size ≤ maxLen) (h : 1048576 < a.size + b.size) :
    Calls Try.prog 5 #[.string a, .string b] w fun e w' => e = .returned (.bool false) ∧ w' = w := by
  unfold maxLen at ha hb
  go_enter Try.func5, Try.ntmps5
  go_wp2
  all_goals
    go_ret
    exact ⟨rfl, rfl⟩

set_option maxHeartbeats 400000 in
theorem bytes1_yes (a : ByteArray) (w : World) (h : a.size ≤ 1048576) :
    Calls Try.prog 7 #[.string a] w fun e w' => e = .returned (.bool true) ∧ w' = w := by
  go_enter Try.func7, Try.ntmps7
  go_wp2
  go_ret
  exact ⟨rfl, rfl⟩

set_option maxHeartbeats 400000 in
theorem bytes1_no (a : ByteArray) (w : World) (ha : a.size ≤ maxLen) (h : 1048576 < a.size) :
    Calls Try.prog 7 #[.string a] w fun e w' => e = .returned (.bool false) ∧ w' = w := by
  unfold maxLen at ha
  go_enter Try.func7, Try.ntmps7
  go_wp2
  all_goals
    go_ret
    exact ⟨rfl, rfl⟩

theorem ba_ext {a b : ByteArray} (h : a.data.toList = b.data.toList) : a = b := by
  cases a; cases b; simp at h; simp [h]

theorem ex_list (s : ByteArray) (i j : Nat) : (s.extract i j).data.toList = (s.data.toList.take j).drop i := by
  rw [ByteArray.data_extract, Array.toList_extract, List.extract_eq_take_drop, List.drop_take]

theorem get_list (s : ByteArray) (j : Nat) (_h : j < s.size) (h' : j < s.data.toList.length) : s[j] = s.data.toList[j] := by
  simp [ByteArray.getElem_eq_getElem_data]

theorem size_list (s : ByteArray) : s.size = s.data.toList.length := by simp

theorem temp_list (s a : ByteArray) (b : List UInt8) (w : World) (h : s.data.toList = 46 :: (a.data.toList ++ 46 :: b)) (hb : ∀ x ∈ b, x.toNat ≠ 46)
    (ha : 0 < a.size) (hb0 : 0 < b.length) (hs : s.size ≤ maxLen) :
    Calls Try.prog 6 #[.string s] w fun e w' => e = .returned (.tuple #[.string a, .bool true]) ∧ w' = w := by
  have hr : (s.extract 1 s.size).data.toList = a.data.toList ++ 46 :: b := by
    rw [ex_list, size_list s, List.take_length, h]; rfl
  have hrs : (s.extract 1 s.size).size = a.size + 1 + b.length := by
    rw [size_list, hr, size_list a]; simp; omega
  have hss : s.size = a.size + 2 + b.length := by
    rw [size_list, h, size_list a]; simp; omega
  have hd : dotted s = true := by
    unfold dotted
    rw [ByteArray.toList_eq, ex_list, h]
    simp
  have key := temp_yes s (s.extract 1 s.size) w hs hd (by omega) rfl (by omega) a.size ha (by omega) (by
      have e : (s.extract 1 s.size).data.toList[a.size]'(by rw [← size_list]; omega) = 46 := by
        simp only [hr]
        rw [List.getElem_append_right (by rw [← size_list]; omega)]
        simp
      rw [get_list _ _ (by omega) (by rw [← size_list]; omega), e]
      rfl) (by
      intro j hj hlt
      have hj' : j < a.size + 1 + b.length := by omega
      rw [get_list _ _ hj (by rw [← size_list]; exact hj)]
      have e : (s.extract 1 s.size).data.toList[j]'(by rw [← size_list]; exact hj) = b[j - a.size - 1]'(by omega) := by
        simp only [hr]
        rw [List.getElem_append_right (by rw [← size_list]; omega)]
        rw [List.getElem_cons, dif_neg (by rw [← size_list]; omega)]
        simp
      rw [e]
      have := hb _ (List.getElem_mem (by omega : j - a.size - 1 < b.length))
      simpa using fun h => this (by omega))
  have e : (s.extract 1 s.size).extract 0 a.size = a := by
    apply ba_ext
    rw [ex_list, hr, size_list a]
    simp
  rw [e] at key
  exact key

theorem pos_of (a : ByteArray) (h : a.toList.isEmpty = false) : 0 < a.size := by
  rw [ByteArray.toList_eq] at h
  rcases Nat.eq_zero_or_pos a.size with e | e
  · rw [ByteArray.size_eq_zero_iff] at e
    subst e
    cases h
  · exact e
end Go.Proofs.Qxb6605351a.Tt
