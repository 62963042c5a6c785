/-
  FnDirUndoesJoin, FnJoinRebuildsFromDirExactly: the walks of the two laws.
-/
import Derived.Test.Qxb6003379aDoorWalk
namespace Go.Proofs.Qxb6003379aDoor
open Go.RowKit
set_option linter.unusedVariables false

set_option maxHeartbeats 400000 in
theorem bytes2_any (a b : ByteArray) (w : World) (ha : a.size ≤ maxLen) (hb : b.size ≤ maxLen) :
    Calls Tryd.prog 7 #[.string a, .string b] w fun e w' => e = .returned (.bool (decide (a.size + b.size ≤ 1048576))) ∧ w' = w := by
  unfold maxLen at ha hb
  by_cases h1 : a.size ≤ 1048576
  · by_cases h2 : b.size ≤ 1048576
    · by_cases h3 : a.size + b.size ≤ 1048576
      · have HD : Hid (decide (a.size + b.size ≤ 1048576) = true) := decide_eq_true h3
        go_enter Tryd.func7, Tryd.ntmps7
        go_wp2
        go_ret
        exact ⟨by rw [HD.out]; rfl, rfl⟩
      · have HD : Hid (decide (a.size + b.size ≤ 1048576) = false) := decide_eq_false h3
        go_enter Tryd.func7, Tryd.ntmps7
        go_wp2
        go_ret
        exact ⟨by rw [HD.out]; rfl, rfl⟩
    · have HD : Hid (decide (a.size + b.size ≤ 1048576) = false) := decide_eq_false (by omega)
      go_enter Tryd.func7, Tryd.ntmps7
      go_wp2
      go_ret
      exact ⟨by rw [HD.out]; rfl, rfl⟩
  · have HD : Hid (decide (a.size + b.size ≤ 1048576) = false) := decide_eq_false (by omega)
    go_enter Tryd.func7, Tryd.ntmps7
    go_wp2
    go_ret
    exact ⟨by rw [HD.out]; rfl, rfl⟩

set_option maxHeartbeats 400000 in
theorem bytes1_any (a : ByteArray) (w : World) (ha : a.size ≤ maxLen) :
    Calls Tryd.prog 13 #[.string a] w fun e w' => e = .returned (.bool (decide (a.size ≤ 1048576))) ∧ w' = w := by
  unfold maxLen at ha
  by_cases h1 : a.size ≤ 1048576
  · have HD : Hid (decide (a.size ≤ 1048576) = true) := decide_eq_true h1
    go_enter Tryd.func13, Tryd.ntmps13
    go_wp2
    go_ret
    exact ⟨by rw [HD.out]; rfl, rfl⟩
  · have HD : Hid (decide (a.size ≤ 1048576) = false) := decide_eq_false h1
    go_enter Tryd.func13, Tryd.ntmps13
    go_wp2
    go_ret
    exact ⟨by rw [HD.out]; rfl, rfl⟩

theorem joinF_len (d n : List UInt8) : (Pl.joinF d n).length ≤ d.length + 1 + n.length := by
  unfold Pl.joinF; split
  · omega
  · split <;> simp <;> omega
theorem joinB_size (d n : ByteArray) : (joinB d n).size ≤ d.size + 1 + n.size := by
  rw [← ba_len, ← ba_len, ← ba_len]; exact joinF_len _ _
theorem dirF_len (p : List UInt8) : (Pl.dirF p).length ≤ p.length + 1 := by
  unfold Pl.dirF Pl.dirOf
  have h1 := Pl.trim_len (Lib.Pa.split p).1
  have h2 : (Lib.Pa.split p).1.length ≤ p.length := by unfold Lib.Pa.split; simp; omega
  split
  · omega
  · split <;> simp
theorem dirB_size (p : ByteArray) : (dirB p).size ≤ p.size + 1 := by
  rw [← ba_len, ← ba_len]; exact dirF_len _

theorem dir_join_b (d n : ByteArray) (h : hasB n = false) : (dirB (joinB d n)).data.toList = Pl.wantF d.data.toList := by
  refine Pl.dir_join _ _ (fun e => ?_)
  have : hasB n = true := List.contains_iff_mem.2 e
  rw [this] at h; cases h

theorem eql_b {x y : ByteArray} (h : x.data.toList = y.data.toList) : (x.toList == y.toList) = true := by
  rw [Lib.toList_data, Lib.toList_data, h]; simp

set_option maxHeartbeats 400000 in
/-- **The law answers true.** -/
theorem law_dir (d n : ByteArray) (w : World) (hd : d.size ≤ maxLen) (hn : n.size ≤ maxLen) :
    Calls Tryd.prog 3 #[.string d, .string n] w fun e w' => e = .returned (.bool true) ∧ Below w.heap.size w w' := by
  by_cases hz : d.size + n.size ≤ 1048576
  · have hdz : decide (d.size + n.size ≤ 1048576) = true := decide_eq_true hz
    cases hs : hasB n with
    | true =>
      go_enter Tryd.func3, Tryd.ntmps3
      go_wp2_with (first
        | (go_at_call 7; refine (bytes2_any _ _ _ hd hn).mono ?_; rintro e w1 ⟨rfl, hw⟩; obtain rfl := hw.symm)
        | (go_at_call 8; refine (slash_any _).mono ?_; rintro e w1 ⟨rfl, hw⟩; obtain rfl := hw.symm)
        | (go_at_call 9; refine (has_any _ _ (by omega)).mono ?_; rintro e w1 ⟨rfl, hw⟩; obtain rfl := hw.symm))
      go_ret
      exact ⟨rfl, Below.refl _ _⟩
    | false =>
      have hj := joinB_size d n
      have hw := dir_join_b d n hs
      by_cases h1 : d.data.toList = []
      · have t1 : d.toList.isEmpty = true := empty_yes h1
        have t2 : ((dirB (joinB d n)).toList == [46]) = true := by rw [Lib.toList_data, hw, h1]; rfl
        clear hw h1
        go_enter Tryd.func3, Tryd.ntmps3
        go_wp2_with (first
          | (go_at_call 7; refine (bytes2_any _ _ _ hd hn).mono ?_; rintro e w1 ⟨rfl, hw⟩; obtain rfl := hw.symm)
          | (go_at_call 8; refine (slash_any _).mono ?_; rintro e w1 ⟨rfl, hw⟩; obtain rfl := hw.symm)
          | (go_at_call 9; refine (has_any _ _ (by omega)).mono ?_; rintro e w1 ⟨rfl, hw⟩; obtain rfl := hw.symm)
          | (go_at_call 10; refine (strip_any _ _ (by omega)).mono ?_; rintro e w1 ⟨rfl, hw⟩; obtain rfl := hw.symm)
          | (go_at_call 12; refine (join_any _ _ _ (by omega) (by omega)).mono ?_; rintro e w1 ⟨rfl, hw⟩; obtain rfl := hw.symm)
          | (go_at_call 11; refine (dir_any _ _ (by omega)).mono ?_; rintro e w1 ⟨rfl, q, rfl⟩))
        go_ret
        exact ⟨rfl, below_drewN (Below.refl _ _) _⟩
      · have t1 : d.toList.isEmpty = false := empty_no h1
        by_cases h2 : Lib.trimRightB d.data.toList 47 = []
        · have t3 : (stripB d).toList.isEmpty = true := empty_yes h2
          have t2 : ((dirB (joinB d n)).toList == [47]) = true := by rw [Lib.toList_data, hw]; unfold Pl.wantF; rw [if_neg h1, if_pos h2]; rfl
          clear hw h1 h2
          go_enter Tryd.func3, Tryd.ntmps3
          go_wp2_with (first
          | (go_at_call 7; refine (bytes2_any _ _ _ hd hn).mono ?_; rintro e w1 ⟨rfl, hw⟩; obtain rfl := hw.symm)
          | (go_at_call 8; refine (slash_any _).mono ?_; rintro e w1 ⟨rfl, hw⟩; obtain rfl := hw.symm)
          | (go_at_call 9; refine (has_any _ _ (by omega)).mono ?_; rintro e w1 ⟨rfl, hw⟩; obtain rfl := hw.symm)
          | (go_at_call 10; refine (strip_any _ _ (by omega)).mono ?_; rintro e w1 ⟨rfl, hw⟩; obtain rfl := hw.symm)
          | (go_at_call 12; refine (join_any _ _ _ (by omega) (by omega)).mono ?_; rintro e w1 ⟨rfl, hw⟩; obtain rfl := hw.symm)
          | (go_at_call 11; refine (dir_any _ _ (by omega)).mono ?_; rintro e w1 ⟨rfl, q, rfl⟩))
          go_ret
          exact ⟨rfl, below_drewN (Below.refl _ _) _⟩
        · have t3 : (stripB d).toList.isEmpty = false := empty_no h2
          have t2 : ((dirB (joinB d n)).toList == (stripB d).toList) = true := eql_b (by rw [hw]; unfold Pl.wantF; rw [if_neg h1, if_neg h2]; rfl)
          clear hw h1 h2
          go_enter Tryd.func3, Tryd.ntmps3
          go_wp2_with (first
          | (go_at_call 7; refine (bytes2_any _ _ _ hd hn).mono ?_; rintro e w1 ⟨rfl, hw⟩; obtain rfl := hw.symm)
          | (go_at_call 8; refine (slash_any _).mono ?_; rintro e w1 ⟨rfl, hw⟩; obtain rfl := hw.symm)
          | (go_at_call 9; refine (has_any _ _ (by omega)).mono ?_; rintro e w1 ⟨rfl, hw⟩; obtain rfl := hw.symm)
          | (go_at_call 10; refine (strip_any _ _ (by omega)).mono ?_; rintro e w1 ⟨rfl, hw⟩; obtain rfl := hw.symm)
          | (go_at_call 12; refine (join_any _ _ _ (by omega) (by omega)).mono ?_; rintro e w1 ⟨rfl, hw⟩; obtain rfl := hw.symm)
          | (go_at_call 11; refine (dir_any _ _ (by omega)).mono ?_; rintro e w1 ⟨rfl, q, rfl⟩))
          go_ret
          exact ⟨rfl, below_drewN (Below.refl _ _) _⟩
  · have hdz : decide (d.size + n.size ≤ 1048576) = false := decide_eq_false hz
    go_enter Tryd.func3, Tryd.ntmps3
    go_wp2_with (go_at_call 7; refine (bytes2_any _ _ _ hd hn).mono ?_; rintro e w1 ⟨rfl, hw⟩; obtain rfl := hw.symm)
    go_ret
    exact ⟨rfl, Below.refl _ _⟩

set_option maxHeartbeats 400000 in
/-- **The law answers true.** -/
theorem law_join (p : ByteArray) (w : World) (hp : p.size ≤ maxLen) :
    Calls Tryd.prog 4 #[.string p] w fun e w' => e = .returned (.bool true) ∧ Below w.heap.size w w' := by
  by_cases hz : p.size ≤ 1048576
  · have hdz : decide (p.size ≤ 1048576) = true := decide_eq_true hz
    have hds := dirB_size p
    rcases Pl.cut_last p.data.toList with hno | ⟨a, b, hab, hb⟩
    · have hi := Pl.lastIdx_no _ hno
      have t1 : ((joinB (dirB p) p).toList == p.toList) = true := eql_b (Pl.join_dir_no _ hno)
      clear hno
      go_enter Tryd.func4, Tryd.ntmps4
      go_wp2_with (first
          | (go_at_call 13; refine (bytes1_any _ _ hp).mono ?_; rintro e w1 ⟨rfl, hw⟩; obtain rfl := hw.symm)
          | (go_at_call 8; refine (slash_any _).mono ?_; rintro e w1 ⟨rfl, hw⟩; obtain rfl := hw.symm)
          | (go_at_call 14; refine (last_any _ _ (by omega)).mono ?_; rintro e w1 ⟨rfl, hw⟩; obtain rfl := hw.symm)
          | (go_at_call 11; refine (dir_any _ _ (by omega)).mono ?_; rintro e w1 ⟨rfl, q, rfl⟩)
          | (go_at_call 12; refine (join_any _ _ _ (by omega) (by omega)).mono ?_; rintro e w1 ⟨rfl, hw⟩; subst hw))
      go_ret
      exact ⟨rfl, below_drewN (Below.refl _ _) _⟩
    · have hi : Lib.Pa.lastIndexByte p.data.toList 47 = ((a.length : Nat) : Int) := by rw [hab]; exact Pl.lastIdx_yes a b hb
      have hlen : p.size = a.length + 1 + b.length := by rw [← ba_len, hab]; simp; omega
      have ha1 : (p.extract 0 a.length).data.toList = a := by rw [Lib.Pa.extract_upto_list, hab]; simp
      have hb1 : (p.extract (a.length + 1) p.size).data.toList = b := by
        rw [Lib.Pa.extract_drop p (a.length + 1) p.size rfl, hab]; simp
      have hsa : (p.extract 0 a.length).size = a.length := by rw [← ba_len, ha1]
      have hsb : (p.extract (a.length + 1) p.size).size = b.length := by rw [← ba_len, hb1]
      have hjoin : ∀ c : Bool, (Pl.joinF (Pl.dirF p.data.toList) b == p.data.toList) = c → ((joinB (dirB p) (p.extract (a.length + 1) p.size)).toList == p.toList) = c := by
        intro c hc
        rw [Lib.toList_data, Lib.toList_data]
        show (Pl.joinF (Pl.dirF p.data.toList) (p.extract (a.length + 1) p.size).data.toList == p.data.toList) = c
        rw [hb1]; exact hc
      rw [hab] at hjoin
      have l1 : a.length + 1 ≤ p.size := by omega
      have l2 : (p.extract (a.length + 1) p.size).size ≤ p.size := by omega
      clear hlen hsb
      generalize hpre : p.extract 0 a.length = pre at *
      generalize hbase : p.extract (a.length + 1) p.size = base at *
      by_cases h0 : a = []
      · have t1 : pre.toList.isEmpty = true := empty_yes (by rw [ha1]; exact h0)
        have t2 := hjoin true (by rw [h0, List.nil_append, Pl.join_dir_empty b hb]; simp)
        clear hjoin hab ha1 hb1 h0 hb hsa
        generalize a.length = al at *
        go_enter Tryd.func4, Tryd.ntmps4
        go_wp2_with (first
          | (go_at_call 13; refine (bytes1_any _ _ hp).mono ?_; rintro e w1 ⟨rfl, hw⟩; obtain rfl := hw.symm)
          | (go_at_call 8; refine (slash_any _).mono ?_; rintro e w1 ⟨rfl, hw⟩; obtain rfl := hw.symm)
          | (go_at_call 14; refine (last_any _ _ (by omega)).mono ?_; rintro e w1 ⟨rfl, hw⟩; obtain rfl := hw.symm)
          | (go_at_call 11; refine (dir_any _ _ (by omega)).mono ?_; rintro e w1 ⟨rfl, q, rfl⟩)
          | (go_at_call 12; refine (join_any _ _ _ (by omega) (by omega)).mono ?_; rintro e w1 ⟨rfl, hw⟩; subst hw))
        go_ret
        exact ⟨rfl, below_drewN (Below.refl _ _) _⟩
      · have t1 : pre.toList.isEmpty = false := empty_no (by rw [ha1]; exact h0)
        have hps : 0 < pre.size := by
          rw [hsa]; exact List.length_pos_iff.2 h0
        have l3 : pre.size ≤ 1048576 := by omega
        clear hsa
        have i1 : (1 : Int) ≤ (pre.size : Int) := by omega
        have hsn := last_snoc pre hps
        rw [ha1] at hsn
        by_cases h1 : pre[pre.size - 1] = 47
        · have b1 : ((pre[pre.size - 1].toNat : Int) != 47) = false := by rw [h1]; rfl
          have hsuf : Lib.hasSuffix a [47] = true := (Pl.suffix_iff a).2 ⟨_, by rw [h1] at hsn; exact hsn⟩
          have t2 := hjoin false (by rw [beq_eq_false_iff_ne]; exact Pl.join_dir_slash a b hb hsuf)
          clear hjoin hab ha1 hb1 h0 hb hsn h1 hsuf
          generalize a.length = al at *
          go_enter Tryd.func4, Tryd.ntmps4
          go_wp2_with (first
          | (go_at_call 13; refine (bytes1_any _ _ hp).mono ?_; rintro e w1 ⟨rfl, hw⟩; obtain rfl := hw.symm)
          | (go_at_call 8; refine (slash_any _).mono ?_; rintro e w1 ⟨rfl, hw⟩; obtain rfl := hw.symm)
          | (go_at_call 14; refine (last_any _ _ (by omega)).mono ?_; rintro e w1 ⟨rfl, hw⟩; obtain rfl := hw.symm)
          | (go_at_call 11; refine (dir_any _ _ (by omega)).mono ?_; rintro e w1 ⟨rfl, q, rfl⟩)
          | (go_at_call 12; refine (join_any _ _ _ (by omega) (by omega)).mono ?_; rintro e w1 ⟨rfl, hw⟩; subst hw))
          go_ret
          exact ⟨rfl, below_drewN (Below.refl _ _) _⟩
        · have b1 : ((pre[pre.size - 1].toNat : Int) != 47) = true := by
            rw [bne_iff_ne]; intro e; exact h1 (UInt8.toNat_inj.1 (by show pre[pre.size - 1].toNat = 47; omega))
          have hsuf : Lib.hasSuffix a [47] = false := by
            rw [Bool.eq_false_iff]; intro h
            obtain ⟨r, hr⟩ := (Pl.suffix_iff a).1 h
            rw [hsn] at hr
            exact h1 (by simpa using (List.append_inj' hr rfl).2)
          by_cases h2 : a = [46]
          · have b2 : (pre.toList == [46]) = true := by rw [Lib.toList_data, ha1, h2]; rfl
            have t2 := hjoin false (by rw [beq_eq_false_iff_ne, h2]; exact Pl.join_dir_dot b hb)
            clear hjoin hab ha1 hb1 h0 hb hsn h1 hsuf h2
            generalize a.length = al at *
            go_enter Tryd.func4, Tryd.ntmps4
            go_wp2_with (first
          | (go_at_call 13; refine (bytes1_any _ _ hp).mono ?_; rintro e w1 ⟨rfl, hw⟩; obtain rfl := hw.symm)
          | (go_at_call 8; refine (slash_any _).mono ?_; rintro e w1 ⟨rfl, hw⟩; obtain rfl := hw.symm)
          | (go_at_call 14; refine (last_any _ _ (by omega)).mono ?_; rintro e w1 ⟨rfl, hw⟩; obtain rfl := hw.symm)
          | (go_at_call 11; refine (dir_any _ _ (by omega)).mono ?_; rintro e w1 ⟨rfl, q, rfl⟩)
          | (go_at_call 12; refine (join_any _ _ _ (by omega) (by omega)).mono ?_; rintro e w1 ⟨rfl, hw⟩; subst hw))
            go_ret
            exact ⟨rfl, below_drewN (Below.refl _ _) _⟩
          · have b2 : (pre.toList == [46]) = false := by rw [Lib.toList_data, ha1, beq_eq_false_iff_ne]; exact h2
            have t2 := hjoin true (by rw [Pl.join_dir_same a b hb h0 hsuf h2]; simp)
            clear hjoin hab ha1 hb1 h0 hb hsn h1 hsuf h2
            generalize a.length = al at *
            go_enter Tryd.func4, Tryd.ntmps4
            go_wp2_with (first
          | (go_at_call 13; refine (bytes1_any _ _ hp).mono ?_; rintro e w1 ⟨rfl, hw⟩; obtain rfl := hw.symm)
          | (go_at_call 8; refine (slash_any _).mono ?_; rintro e w1 ⟨rfl, hw⟩; obtain rfl := hw.symm)
          | (go_at_call 14; refine (last_any _ _ (by omega)).mono ?_; rintro e w1 ⟨rfl, hw⟩; obtain rfl := hw.symm)
          | (go_at_call 11; refine (dir_any _ _ (by omega)).mono ?_; rintro e w1 ⟨rfl, q, rfl⟩)
          | (go_at_call 12; refine (join_any _ _ _ (by omega) (by omega)).mono ?_; rintro e w1 ⟨rfl, hw⟩; subst hw))
            go_ret
            exact ⟨rfl, below_drewN (Below.refl _ _) _⟩
  · have hdz : decide (p.size ≤ 1048576) = false := decide_eq_false hz
    go_enter Tryd.func4, Tryd.ntmps4
    go_wp2_with (go_at_call 13; refine (bytes1_any _ _ hp).mono ?_; rintro e w1 ⟨rfl, hw⟩; obtain rfl := hw.symm)
    go_ret
    exact ⟨rfl, Below.refl _ _⟩
end Go.Proofs.Qxb6003379aDoor
