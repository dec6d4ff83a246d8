/-
  Seat b6605158aD: zzStripCommas, zzCommasWellPlaced.
-/
import Derived.Test.Qxb6605158aDoorTh2
import Derived.Test.Qxb6605158aDoorPl2
namespace Go.Proofs.Qxb6605158aDoor.Sd
open Go.RowKit Plain Th

def keep (l : List UInt8) : List UInt8 := l.filter (fun c => decide (c.toNat ≠ 44))

theorem keep_len (l : List UInt8) : (keep l).length ≤ l.length := List.length_filter_le _ _

theorem take_snoc (s : ByteArray) (k : Nat) (h : k < s.size) : s.data.toList.take (k + 1) = s.data.toList.take k ++ [s[k]] := by
  rw [List.take_succ_eq_append_getElem (by simpa using h)]; rfl

theorem keep_hit (s : ByteArray) (k : Nat) (h : k < s.size) (hc : ((s[k].toNat : Int) != 44) = true) : keep (s.data.toList.take (k + 1)) = keep (s.data.toList.take k) ++ [s[k]] := by
  rw [take_snoc s k h]
  unfold keep
  rw [List.filter_append]
  congr 1
  have : s[k].toNat ≠ 44 := by intro e; simp [e] at hc
  simp [this]
theorem keep_miss (s : ByteArray) (k : Nat) (h : k < s.size) (hc : ((s[k].toNat : Int) != 44) = false) : keep (s.data.toList.take (k + 1)) = keep (s.data.toList.take k) := by
  rw [take_snoc s k h]
  unfold keep
  rw [List.filter_append]
  have : s[k].toNat = 44 := by simp at hc; omega
  simp [this]

set_option maxHeartbeats 400000 in
theorem strip_any (s : ByteArray) (hs : s.size ≤ 100) (w : World) :
    Calls Tryd.prog 8 #[.string s] w fun e w' => e = .returned (.string ⟨(keep s.data.toList).toArray⟩) ∧ Below w.heap.size w w' := by
  obtain ⟨i0, hi, hz0, hz1, hz2⟩ := info_parts info5
  go_enter Tryd.func8, Tryd.ntmps8
  go_wp2_with (at_make; refine wpList_make_own _ rfl _ _ 29 rfl w.heap.size 5 i0 (.int .u8 0) 1 Tryd.underlying29 hi hz0 hz1 .i64 .i64 (s.size : Int) s.size rfl rfl rfl (by rw [hz2]; omega) (by unfold maxLen; omega) (Nat.le_refl _) ?_; intro w3 hown3 hgrow3; have hbw3 : Below w.heap.size w w3 := (Below.refl _ _).grown hgrow3 (Nat.le_refl _) (fun k hk => by cases hk); clear hgrow3)
  clear hi hz0 hz1 hz2
  go_loopw [3, 4] (fun v i wr => ∃ k : Nat, k ≤ s.size ∧ i = .int .i64 k ∧ wr.ownsRow w.heap.size 5 1 v (keep (s.data.toList.take k)).length (Lib.byteCells (keep (s.data.toList.take k))) ∧ Below w.heap.size w wr) (fun _ i _ => s.size - (intOf i).toNat)
  case atStart => exact ⟨0, Nat.zero_le _, rfl, hown3, hbw3⟩
  case round =>
    obtain ⟨k, hk, rfl, hownr, hbr⟩ := hrel
    have hkl : (keep (s.data.toList.take k)).length ≤ 100 := by
      have h1 := keep_len (s.data.toList.take k)
      have h2 : (s.data.toList.take k).length ≤ k := List.length_take_le _ _
      omega
    have hsr : w.heap.size ≤ wr.heap.size := hbr.size
    by_cases hlt : k < s.size
    · by_cases hc : ((s[k].toNat : Int) != 44) = true
      · have HK : Hid (keep (s.data.toList.take (k + 1)) = keep (s.data.toList.take k) ++ [s[k]]) := keep_hit s k hlt hc
        generalize keep (s.data.toList.take k) = l0 at hownr hkl HK
        go_wp2_with (at_builtin; refine app1 rfl (.tmp 18) _ rfl w.heap.size _ _ _ _ _ rfl hownr rfl (by omega) hsr ?_; intro v5 w5 hown5 hbw5 hs5)
        go_roundw
        case rel =>
          refine ⟨k + 1, by omega, by go_num, ?_, hbr.trans hbw5⟩
          rw [HK.out, Lib.byteCells_append, List.length_append]
          exact hown5
        case measure => simp [intOf]; omega
      · have hc' : ((s[k].toNat : Int) != 44) = false := by simpa using hc
        clear hc
        have HK : Hid (keep (s.data.toList.take (k + 1)) = keep (s.data.toList.take k)) := keep_miss s k hlt hc'
        go_wp2
        go_roundw
        case rel =>
          refine ⟨k + 1, by omega, by go_num, ?_, hbr⟩
          rw [HK.out]
          exact hownr
        case measure => simp [intOf]; omega
    · have hcv := own_string hownr
      go_wp2
      go_ret
      refine ⟨?_, hbr⟩
      rw [List.take_of_length_le (by simp; omega)]
      rfl

set_option maxHeartbeats 800000 in
theorem placed_any (s : ByteArray) (hs : s.size ≤ 100) (w : World) (hp : ∀ i (h : i < s.size), s[i].toNat = 44 → Placed s i) :
    Calls Tryd.prog 7 #[.string s] w fun e w' => e = .returned (.bool true) ∧ w' = w := by
  have HP : Hid (∀ i (h : i < s.size), s[i].toNat = 44 → Placed s i) := hp
  clear hp
  go_enter Tryd.func7, Tryd.ntmps7
  go_wp2
  go_loop [3] (fun i => ∃ k : Nat, k ≤ s.size ∧ i = .int .i64 k) (fun i => s.size - (intOf i).toNat)
  case atStart => exact ⟨0, Nat.zero_le _, rfl⟩
  case round =>
    obtain ⟨k, hk, rfl⟩ := hrel
    by_cases hlt : k < s.size
    · by_cases hc : ((s[k].toNat : Int) != 44) = true
      · go_wp2
        go_round
        case rel => exact ⟨k + 1, by omega, by go_num⟩
        case measure => simp [intOf]; omega
      · have hc' : ((s[k].toNat : Int) != 44) = false := by simpa using hc
        have hp := HP.out k hlt (by simp at hc'; omega)
        have h0 := hp.pos
        have hroom := hp.room
        have HD : Hid (∀ j (h : j < s.size), k < j → j ≤ k + 3 → 48 ≤ s[j].toNat ∧ s[j].toNat ≤ 57) := hp.dig
        have HN : Hid (∀ (h : k + 4 < s.size), s[k + 4].toNat = 44) := hp.next
        clear hc hp
        have hk0 : ((k : Int) == 0) = false := by simp; omega
        go_wp2
        go_loop [4] (fun j => ∃ m : Nat, k + 1 ≤ m ∧ m ≤ k + 4 ∧ j = .int .i64 m) (fun j => k + 4 - (intOf j).toNat)
        case atStart => exact ⟨k + 1, by omega, by omega, by go_num⟩
        case round =>
          obtain ⟨m, hm1, hm2, rfl⟩ := hrel
          by_cases hm3 : m ≤ k + 3
          · have hms : m < s.size := by omega
            obtain ⟨hd1, hd2⟩ := HD.out m hms (by omega) hm3
            go_wp2
            go_round
            case rel => exact ⟨m + 1, by omega, by omega, by go_num⟩
            case measure => simp [intOf]; omega
          · by_cases hn : k + 4 < s.size
            · have hn4 : ((s[k + 4].toNat : Int) != 44) = false := by
                have := HN.out hn
                simp [this]
              go_wp2
              go_round
              case rel => exact ⟨k + 1, by omega, by go_num⟩
              case measure => simp [intOf]; omega
            · go_wp2
              go_round
              case rel => exact ⟨k + 1, by omega, by go_num⟩
              case measure => simp [intOf]; omega
    · go_wp2
      go_ret
      exact ⟨rfl, rfl⟩
end Go.Proofs.Qxb6605158aDoor.Sd
