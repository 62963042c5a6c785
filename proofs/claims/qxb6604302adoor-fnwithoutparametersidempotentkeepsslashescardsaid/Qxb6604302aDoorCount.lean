/-
  The walk of 'countByte', and of the bound on the length.
-/
import Derived.Test.Qxb6604302aDoorScan
namespace Go.Proofs.Qxb6604302aDoor
open Go.RowKit

theorem ret_int {k : IntKind} {a b : Int} (h : a = b) : Ending.returned (.int k a) = .returned (.int k b) := by rw [h]

set_option maxHeartbeats 400000 in
theorem count_any (s : ByteArray) (c : UInt8) (w : World) (hs : s.size ≤ 1048576) :
    Calls Tryd.prog 10 #[.string s, .int .u8 (c.toNat : Int)] w fun e w' => e = .returned (.int .i64 ((s.data.toList.count c : Nat) : Int)) ∧ w' = w := by
  go_enter Tryd.func10, Tryd.ntmps10
  go_wp2
  go_loop [5, 6] (fun n i => ∃ k : Nat, k ≤ s.size ∧ i = .int .i64 k ∧ n = .int .i64 (((s.data.toList.take k).count c : Nat) : Int)) (fun _ i => s.size - (intOf i).toNat)
  case atStart => exact ⟨0, Nat.zero_le _, rfl, rfl⟩
  case round =>
    obtain ⟨k, hk, rfl, rfl⟩ := hrel
    have hl : (s.data.toList.take k).count c ≤ (s.data.toList.take k).length := List.count_le_length
    have hl2 : (s.data.toList.take k).length ≤ k := List.length_take_le _ _
    by_cases hlt : k < s.size
    · have hts := take_snoc s k hlt
      by_cases hc : s[k] = c
      · have hb : ((s[k].toNat : Int) == (c.toNat : Int)) = true := by rw [hc]; simp
        have HS : Hid ((s.data.toList.take (k + 1)).count c = (s.data.toList.take k).count c + 1) := hid_mk (by rw [hts, hc]; simp)
        clear hts hc
        go_wp2
        go_round
        case rel => exact ⟨k + 1, by omega, by go_num, by rw [HS.out]; go_num⟩
        case measure => simp [intOf]; omega
      · have hb : ((s[k].toNat : Int) == (c.toNat : Int)) = false := by rw [beq_eq_false_iff_ne]; intro e; exact hc (UInt8.toNat_inj.1 (by omega))
        have HS : Hid ((s.data.toList.take (k + 1)).count c = (s.data.toList.take k).count c) := hid_mk (by rw [hts, List.count_append]; simp [hc])
        clear hts hc
        go_wp2
        go_round
        case rel => exact ⟨k + 1, by omega, by go_num, by rw [HS.out]⟩
        case measure => simp [intOf]; omega
    · have HE : Hid (s.data.toList.take k = s.data.toList) := hid_mk (List.take_of_length_le (by rw [ba_len]; omega))
      go_wp2
      go_ret
      exact ⟨ret_int (by rw [HE.out]; simp), rfl⟩

set_option maxHeartbeats 400000 in
theorem bytes1_any (a : ByteArray) (w : World) (ha : a.size ≤ maxLen) :
    Calls Tryd.prog 6 #[.string a] w fun e w' => e = .returned (.bool (decide (a.size ≤ 1048576))) ∧ w' = w := by
  unfold maxLen at ha
  by_cases h1 : a.size ≤ 1048576
  · have HD : Hid (decide (a.size ≤ 1048576) = true) := decide_eq_true h1
    go_enter Tryd.func6, Tryd.ntmps6
    go_wp2
    go_ret
    exact ⟨by rw [HD.out]; rfl, rfl⟩
  · have HD : Hid (decide (a.size ≤ 1048576) = false) := decide_eq_false h1
    go_enter Tryd.func6, Tryd.ntmps6
    go_wp2
    go_ret
    exact ⟨by rw [HD.out]; rfl, rfl⟩

set_option maxHeartbeats 400000 in
theorem bytes2_any (a : ByteArray) (w : World) (ha : a.size ≤ maxLen) :
    Calls Tryd.prog 9 #[.string a] w fun e w' => e = .returned (.bool (decide (a.size ≤ 1048576))) ∧ w' = w := by
  unfold maxLen at ha
  by_cases h1 : a.size ≤ 1048576
  · have HD : Hid (decide (a.size ≤ 1048576) = true) := decide_eq_true h1
    go_enter Tryd.func9, Tryd.ntmps9
    go_wp2
    go_ret
    exact ⟨by rw [HD.out]; rfl, rfl⟩
  · have HD : Hid (decide (a.size ≤ 1048576) = false) := decide_eq_false h1
    go_enter Tryd.func9, Tryd.ntmps9
    go_wp2
    go_ret
    exact ⟨by rw [HD.out]; rfl, rfl⟩
end Go.Proofs.Qxb6604302aDoor
