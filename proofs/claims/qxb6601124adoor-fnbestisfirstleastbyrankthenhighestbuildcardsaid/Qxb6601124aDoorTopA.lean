/-
  FnCompareBuildsMatchesModel: the walk of the law.
-/
import Derived.Test.Qxb6601124aDoorCmp
namespace Go.Proofs.Qxb6601124aDoor
open Go.RowKit Go.Shelf
set_option linter.unusedVariables false

theorem runs (s : ByteArray) : (Pl.run s.data.toList).length ≤ s.size := tw_le _ s

set_option maxRecDepth 100000 in
set_option maxHeartbeats 2000000 in
theorem order_any (a b : ByteArray) (w : World) (ha : a.size ≤ 1048576) (hb : b.size ≤ 1048576) :
    Calls Tryd.prog 11 #[.string a, .string b] w fun e w' => e = .returned (.int .i64 (Pl.order a.data.toList b.data.toList)) ∧ ∃ N, w' = w.drewN N := by
  obtain ⟨A, hA⟩ : ∃ A, Pl.order a.data.toList b.data.toList = A := ⟨_, rfl⟩
  rw [hA]
  unfold Pl.order at hA
  have sa := sizes a
  have sb := sizes b
  have H13a := hid_mk fun W => digrun_any a W ha
  have H13b := hid_mk fun W => digrun_any b W hb
  have H35 := hid_mk fun W => num_any (runB a) (runB b) W (by omega) (by omega)
  have H36 := hid_mk fun W => cmp_any (aftB a) (aftB b) W (by omega) (by omega)
  rw [runB_data, runB_data] at H35
  rw [aftB_data, aftB_data] at H36
  have ra := run_take a
  have rb := run_take b
  have da := run_drop a
  have db := run_drop b
  have la := runs a
  have lb := runs b
  clear sa sb
  generalize Pl.num (Pl.run a.data.toList) (Pl.run b.data.toList) = N at *
  generalize Pl.cmp (Pl.after a.data.toList) (Pl.after b.data.toList) = M at *
  generalize runB a = Ra at *
  generalize runB b = Rb at *
  generalize aftB a = Ta at *
  generalize aftB b = Tb at *
  generalize (Pl.run a.data.toList).length = La at *
  generalize (Pl.run b.data.toList).length = Lb at *
  have HA := hid_mk hA
  clear hA
  have ia : (0 : Int) ≤ (La : Int) ∧ (La : Int) ≤ (a.size : Int) := by omega
  have ib : (0 : Int) ≤ (Lb : Int) ∧ (Lb : Int) ≤ (b.size : Int) := by omega
  by_cases h0 : N = 0
  · have HE : Hid (M = A) := hid_mk (by rw [← HA.out, if_neg (by simp [h0])])
    subst h0
    clear HA
    go_enter Tryd.func11, Tryd.ntmps11
    go_upto_region 2 with (go_at_call 13; refine (H13a.out _).mono ?_; rintro e w1 ⟨rfl, hw⟩; obtain rfl := hw.symm)
    go_wp2_with (go_at_call 13; refine (H13b.out _).mono ?_; rintro e w1 ⟨rfl, hw⟩; obtain rfl := hw.symm)
    go_quiet ((go_at_call 35; exact Calls.quiet_of_same (H35.out _)))
    go_wp2_with fail
    obtain ⟨w1, hw1⟩ : ∃ w1, w.drewN nq = w1 := ⟨_, rfl⟩
    rw [hw1]
    have HW1 := hid_mk hw1
    clear hw1
    go_quiet ((go_at_call 36; exact Calls.quiet_of (H36.out _)))
    go_wp2_with fail
    go_ret
    exact ⟨by rw [← HE.out] <;> rfl, _, by rw [← HW1.out, World.drewN_drewN]⟩
  · have HE : Hid (N = A) := hid_mk (by rw [← HA.out, if_pos h0])
    have h1 : (N == 0) = false := by rw [beq_eq_false_iff_ne]; exact h0
    clear HA h0
    go_enter Tryd.func11, Tryd.ntmps11
    go_upto_region 2 with (go_at_call 13; refine (H13a.out _).mono ?_; rintro e w1 ⟨rfl, hw⟩; obtain rfl := hw.symm)
    go_wp2_with (go_at_call 13; refine (H13b.out _).mono ?_; rintro e w1 ⟨rfl, hw⟩; obtain rfl := hw.symm)
    go_quiet ((go_at_call 35; exact Calls.quiet_of_same (H35.out _)))
    go_wp2_with fail
    go_ret
    exact ⟨by rw [← HE.out] <;> rfl, _, rfl⟩

set_option maxHeartbeats 400000 in
theorem bytes_any (a b : ByteArray) (w : World) (ha : a.size ≤ maxLen) (hb : b.size ≤ maxLen) :
    Calls Tryd.prog 9 #[.string a, .string b] w fun e w' => e = .returned (.bool (decide (a.size + b.size ≤ 1048576))) ∧ w' = w := by
  unfold maxLen at ha hb
  by_cases h1 : a.size + b.size ≤ 1048576
  · have HD : Hid (decide (a.size + b.size ≤ 1048576) = true) := decide_eq_true h1
    go_enter Tryd.func9, Tryd.ntmps9
    go_wp2
    go_ret
    exact ⟨by rw [HD.out]; rfl, rfl⟩
  · have HD : Hid (decide (a.size + b.size ≤ 1048576) = false) := decide_eq_false h1
    by_cases h2 : a.size ≤ 1048576
    · by_cases h3 : b.size ≤ 1048576
      · go_enter Tryd.func9, Tryd.ntmps9
        go_wp2
        go_ret
        exact ⟨by rw [HD.out]; rfl, rfl⟩
      · go_enter Tryd.func9, Tryd.ntmps9
        go_wp2
        go_ret
        exact ⟨by rw [HD.out]; rfl, rfl⟩
    · go_enter Tryd.func9, Tryd.ntmps9
      go_wp2
      go_ret
      exact ⟨by rw [HD.out]; rfl, rfl⟩

set_option maxHeartbeats 400000 in
theorem zz_any (a b : ByteArray) (w : World) (ha : a.size ≤ 1048576) (hb : b.size ≤ 1048576) :
    Calls Tryd.prog 10 #[.string a, .string b] w fun e w' => e = .returned (.int .i64 (Pl.cb a.data.toList b.data.toList)) ∧ Below w.heap.size w w' := by
  have H := hid_mk fun W => cb_any a b W ha hb
  generalize Pl.cb a.data.toList b.data.toList = A at *
  go_enter Tryd.func10, Tryd.ntmps10
  go_wp2_with (go_at_call 34; refine (H.out _).mono ?_; rintro e w1 ⟨rfl, hb1⟩)
  go_ret
  exact ⟨rfl, hb1⟩

set_option maxRecDepth 100000 in
set_option maxHeartbeats 2000000 in
theorem law_core (a b : ByteArray) (w : World) (ha : a.size ≤ 524288) (hb : b.size ≤ 524288) :
    Calls Tryd.prog 3 #[.string a, .string b] w fun e w' => e = .returned (.bool true) ∧ Below w.heap.size w w' := by
  have H9 : Hid (∀ W : World, Calls Tryd.prog 9 #[.string a, .string b] W fun e w' => e = .returned (.bool true) ∧ w' = W) := hid_mk fun W => by
    have := bytes_any a b W (by unfold maxLen; omega) (by unfold maxLen; omega)
    rwa [decide_eq_true (by omega)] at this
  have H10 := hid_mk fun W => zz_any a b W (by omega) (by omega)
  cases h1 : a.toList.isEmpty with
  | true =>
    obtain rfl := empty_of h1
    have HC : Hid (Pl.cb (⟨#[]⟩ : ByteArray).data.toList b.data.toList = - (b.size : Int)) := hid_mk (by
      unfold Pl.cb; rw [if_pos (Or.inl rfl), ba_len b]; show (0 : Int) - (b.size : Int) = _; omega)
    rw [HC.out] at H10
    clear HC h1
    go_enter Tryd.func3, Tryd.ntmps3
    go_wp2_with (first
      | (go_at_call 9; refine (H9.out _).mono ?_; rintro e w1 ⟨rfl, hw⟩; obtain rfl := hw.symm)
      | (go_at_call 10; refine (H10.out _).mono ?_; rintro e w1 ⟨rfl, hb1⟩))
    go_ret
    exact ⟨rfl, hb1⟩
  | false =>
    cases h2 : b.toList.isEmpty with
    | true =>
      obtain rfl := empty_of h2
      have HC : Hid (Pl.cb a.data.toList (⟨#[]⟩ : ByteArray).data.toList = (a.size : Int)) := hid_mk (by
        unfold Pl.cb; rw [if_pos (Or.inr rfl), ba_len a]; show (a.size : Int) - (0 : Int) = _; omega)
      rw [HC.out] at H10
      clear HC h2
      go_enter Tryd.func3, Tryd.ntmps3
      go_wp2_with (first
        | (go_at_call 9; refine (H9.out _).mono ?_; rintro e w1 ⟨rfl, hw⟩; obtain rfl := hw.symm)
        | (go_at_call 10; refine (H10.out _).mono ?_; rintro e w1 ⟨rfl, hb1⟩))
      go_ret
      exact ⟨rfl, hb1⟩
    | false =>
      have n1 : a.data.toList ≠ [] := fun h => by rw [Lib.toList_data, h] at h1; cases h1
      have n2 : b.data.toList ≠ [] := fun h => by rw [Lib.toList_data, h] at h2; cases h2
      have hne := Pl.law_ne a.data.toList b.data.toList n1 n2
      have heq := Pl.law_eq a.data.toList b.data.toList n1 n2
      clear n1 n2
      have sa := sizes a
      have sb := sizes b
      have H11 := hid_mk fun W => order_any a b W (by omega) (by omega)
      have H13a := hid_mk fun W => digrun_any a W (by omega)
      have H13b := hid_mk fun W => digrun_any b W (by omega)
      have H12a := hid_mk fun W => signif_any (runB a) W (by omega)
      have H12b := hid_mk fun W => signif_any (runB b) W (by omega)
      rw [runB_data] at H12a H12b
      have ra := run_take a
      have rb := run_take b
      have la := runs a
      have lb := runs b
      have ga : (Pl.sig (Pl.run a.data.toList)).length ≤ 524288 := by omega
      have gb : (Pl.sig (Pl.run b.data.toList)).length ≤ 524288 := by omega
      clear sa sb
      generalize Pl.cb a.data.toList b.data.toList = C at *
      generalize Pl.order a.data.toList b.data.toList = O at *
      generalize (Pl.sig (Pl.run a.data.toList)).length = Ga at *
      generalize (Pl.sig (Pl.run b.data.toList)).length = Gb at *
      generalize runB a = Ra at *
      generalize runB b = Rb at *
      generalize (Pl.run a.data.toList).length = La at *
      generalize (Pl.run b.data.toList).length = Lb at *
      by_cases h3 : Ga = Gb
      · obtain rfl : C = O := heq h3
        subst h3
        clear hne heq
        go_enter Tryd.func3, Tryd.ntmps3
        go_upto_region 12 with (first
          | (go_at_call 9; refine (H9.out _).mono ?_; rintro e w1 ⟨rfl, hw⟩; obtain rfl := hw.symm)
          | (go_at_call 10; refine (H10.out _).mono ?_; rintro e w1 ⟨rfl, hb1⟩)
          | (go_at_call 11; refine (H11.out _).mono ?_; rintro e w2 ⟨rfl, N, rfl⟩)
          | (go_at_call 13; refine (H13a.out _).mono ?_; rintro e w3 ⟨rfl, hw⟩; obtain rfl := hw.symm)
          | (go_at_call 12; refine (H12a.out _).mono ?_; rintro e w3 ⟨rfl, hw⟩; obtain rfl := hw.symm))
        go_wp2_with (first
          | (go_at_call 13; refine (H13b.out _).mono ?_; rintro e w3 ⟨rfl, hw⟩; obtain rfl := hw.symm)
          | (go_at_call 12; refine (H12b.out _).mono ?_; rintro e w3 ⟨rfl, hw⟩; obtain rfl := hw.symm))
        go_ret
        exact ⟨rfl, bdrew hb1 _⟩
      · obtain ⟨rfl, rfl⟩ := hne h3
        have h4 : ((Ga : Int) == (Gb : Int)) = false := by rw [beq_eq_false_iff_ne]; omega
        have H14 := hid_mk fun W => sign_any ((Ga : Int) - (Gb : Int)) W
        generalize Pl.sgn ((Ga : Int) - (Gb : Int)) = S at *
        clear heq
        go_enter Tryd.func3, Tryd.ntmps3
        go_upto_region 12 with (first
          | (go_at_call 9; refine (H9.out _).mono ?_; rintro e w1 ⟨rfl, hw⟩; obtain rfl := hw.symm)
          | (go_at_call 10; refine (H10.out _).mono ?_; rintro e w1 ⟨rfl, hb1⟩)
          | (go_at_call 11; refine (H11.out _).mono ?_; rintro e w2 ⟨rfl, N, rfl⟩)
          | (go_at_call 13; refine (H13a.out _).mono ?_; rintro e w3 ⟨rfl, hw⟩; obtain rfl := hw.symm)
          | (go_at_call 12; refine (H12a.out _).mono ?_; rintro e w3 ⟨rfl, hw⟩; obtain rfl := hw.symm))
        go_wp2_with (first
          | (go_at_call 13; refine (H13b.out _).mono ?_; rintro e w3 ⟨rfl, hw⟩; obtain rfl := hw.symm)
          | (go_at_call 12; refine (H12b.out _).mono ?_; rintro e w3 ⟨rfl, hw⟩; obtain rfl := hw.symm)
          | (go_at_call 14; refine (H14.out _).mono ?_; rintro e w3 ⟨rfl, hw⟩; obtain rfl := hw.symm))
        go_ret
        exact ⟨rfl, bdrew hb1 _⟩

set_option maxHeartbeats 1000000 in
/-- **compareBuilds answers as its model.** -/
theorem law_compare (a b : ByteArray) (w : World) (ha : a.size ≤ maxLen) (hb : b.size ≤ maxLen) :
    Calls Tryd.prog 3 #[.string a, .string b] w fun e w' => e = .returned (.bool true) ∧ Below w.heap.size w w' := by
  by_cases h : a.size ≤ 524288 ∧ b.size ≤ 524288
  · exact law_core a b w h.1 h.2
  · have H9 := hid_mk fun W => bytes_any a b W ha hb
    by_cases h1 : a.size + b.size ≤ 1048576
    · rw [decide_eq_true h1] at H9
      by_cases h2 : a.size ≤ 524288
      · have h3 : ¬ b.size ≤ 524288 := fun h3 => h ⟨h2, h3⟩
        clear h
        go_enter Tryd.func3, Tryd.ntmps3
        go_wp2_with (go_at_call 9; refine (H9.out _).mono ?_; rintro e w1 ⟨rfl, hw⟩; obtain rfl := hw.symm)
        go_ret
        exact ⟨rfl, Below.refl _ _⟩
      · clear h
        go_enter Tryd.func3, Tryd.ntmps3
        go_wp2_with (go_at_call 9; refine (H9.out _).mono ?_; rintro e w1 ⟨rfl, hw⟩; obtain rfl := hw.symm)
        go_ret
        exact ⟨rfl, Below.refl _ _⟩
    · rw [decide_eq_false h1] at H9
      clear h
      go_enter Tryd.func3, Tryd.ntmps3
      go_wp2_with (go_at_call 9; refine (H9.out _).mono ?_; rintro e w1 ⟨rfl, hw⟩; obtain rfl := hw.symm)
      go_ret
      exact ⟨rfl, Below.refl _ _⟩
end Go.Proofs.Qxb6601124aDoor
