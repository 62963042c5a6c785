/-
  The walks of 'zzBytesCmp' and of compareBuilds.
-/
import Derived.Test.Qxb6601124aDoorNum
namespace Go.Proofs.Qxb6601124aDoor
open Go.RowKit Go.Shelf
set_option linter.unusedVariables false

set_option maxHeartbeats 2000000 in
theorem cmp_any (x y : ByteArray) (w : World) (hx : x.size ≤ 1048576) (hy : y.size ≤ 1048576) :
    Calls Tryd.prog 36 #[.string x, .string y] w fun e w' => e = .returned (.int .i64 (Pl.cmp x.data.toList y.data.toList)) ∧ ∃ N, w' = w.drewN N := by
  obtain ⟨n, hn⟩ : ∃ n, min x.size y.size = n := ⟨_, rfl⟩
  obtain ⟨A, hA⟩ : ∃ A, Pl.cmp x.data.toList y.data.toList = A := ⟨_, rfl⟩
  rw [hA]
  have HA := hid_mk hA
  clear hA
  have hxn : n ≤ x.size := by omega
  have hyn : n ≤ y.size := by omega
  go_enter Tryd.func36, Tryd.ntmps36
  go_upto_if 12 with fail
  go_cut [5] (fun v wc => v = .int .i64 n ∧ w = wc)
  case first =>
    clear HA
    by_cases h : y.size < x.size
    · have HN : Hid ((n : Int) = (y.size : Int)) := hid_mk (by omega)
      clear hn hxn hyn
      go_wp2_with fail
      go_meet
      exact ⟨by rw [HN.out], rfl⟩
    · have HN : Hid ((n : Int) = (x.size : Int)) := hid_mk (by omega)
      clear hn hxn hyn
      go_wp2_with fail
      go_meet
      exact ⟨by rw [HN.out], rfl⟩
  case rest =>
    obtain ⟨rfl, rfl⟩ := hcut
    go_wp2_with fail
    go_loopg [6] n (fun gf v wr => ∃ k : Nat, k + gf = n ∧ v = .int .i64 k ∧ Hid (Pl.cmp (x.data.toList.drop k) (y.data.toList.drop k) = A) ∧ ∃ N, wr = w.drewN N)
    case atStart => exact ⟨0, by omega, rfl, hid_mk HA.out, 0, rfl⟩
    case round =>
      obtain ⟨k, hkg, rfl, HR, N, rfl⟩ := hrel
      clear HA
      by_cases hlt : k < n
      · obtain ⟨g, rfl⟩ : ∃ g, gk = g + 1 := ⟨gk - 1, by omega⟩
        have hkx : k < x.size := by omega
        have hky : k < y.size := by omega
        have HR2 : Hid (Pl.cmp (x[k] :: x.data.toList.drop (k + 1)) (y[k] :: y.data.toList.drop (k + 1)) = A) := hid_mk (by
          rw [← ba_drop x k hkx, ← ba_drop y k hky]; exact HR.out)
        have ix : (0 : Int) ≤ (k : Int) ∧ (k : Int) < (x.size : Int) := by omega
        have iy : (0 : Int) ≤ (k : Int) ∧ (k : Int) < (y.size : Int) := by omega
        obtain ⟨c, hc⟩ : ∃ c, x[k] = c := ⟨_, rfl⟩
        obtain ⟨d, hd⟩ : ∃ d, y[k] = d := ⟨_, rfl⟩
        rw [hc, hd] at HR2
        clear HR
        by_cases h1 : c.toNat < d.toNat
        · have HE : Hid (A = -1) := hid_mk (by rw [← HR2.out]; exact Pl.cmp_lt _ _ (UInt8.lt_iff_toNat_lt.2 h1))
          clear HR2
          go_wp2_with fail
          go_quiet (fail)
          go_wp2_with fail
          go_ret
          exact ⟨by rw [HE.out] <;> rfl, _, by rw [World.drewN_drewN]⟩
        · by_cases h2 : d.toNat < c.toNat
          · have HE : Hid (A = 1) := hid_mk (by rw [← HR2.out]; exact Pl.cmp_gt _ _ (UInt8.lt_iff_toNat_lt.2 h2))
            clear HR2
            go_wp2_with fail
            go_quiet (fail)
            go_wp2_with fail
            go_quiet (fail)
            go_wp2_with fail
            go_ret
            exact ⟨by rw [HE.out] <;> rfl, _, by rw [World.drewN_drewN, World.drewN_drewN]⟩
          · have HE : Hid (Pl.cmp (x.data.toList.drop (k + 1)) (y.data.toList.drop (k + 1)) = A) := hid_mk (by
              have : c = d := UInt8.toNat_inj.1 (by omega)
              rw [← HR2.out, this]; exact (Pl.cmp_same _ _ _).symm)
            clear HR2
            go_wp2_with fail
            go_quiet (fail)
            go_wp2_with fail
            go_quiet (fail)
            go_wp2_with fail
            go_roundg g
            case measure => omega
            case rel => exact ⟨k + 1, by omega, by go_num, HE, _, rfl⟩
      · have hk : k = n := by omega
        by_cases h1 : x.size < y.size
        · have HE : Hid (A = -1) := hid_mk (by
            rw [← HR.out, ba_nil x k (by omega), ba_drop y k (by omega)]; rfl)
          clear HR hkg hk hn
          go_wp2_with fail
          go_ret
          exact ⟨by rw [HE.out] <;> rfl, N, rfl⟩
        · by_cases h2 : y.size < x.size
          · have HE : Hid (A = 1) := hid_mk (by
              rw [← HR.out, ba_nil y k (by omega), ba_drop x k (by omega)]; rfl)
            clear HR hkg hk hn
            go_wp2_with fail
            go_ret
            exact ⟨by rw [HE.out] <;> rfl, N, rfl⟩
          · have HE : Hid (A = 0) := hid_mk (by
              rw [← HR.out, ba_nil y k (by omega), ba_nil x k (by omega)]; rfl)
            clear HR hkg hk hn
            go_wp2_with fail
            go_ret
            exact ⟨by rw [HE.out] <;> rfl, N, rfl⟩

theorem after_set (l : List UInt8) : Lib.trimLeftS l [48, 49, 50, 51, 52, 53, 54, 55, 56, 57] = Pl.after l := by
  unfold Lib.trimLeftS Pl.after
  congr 1
  funext c
  exact dig_cs c

/-- The text's digits, and what follows. -/
def runB (s : ByteArray) : ByteArray := ⟨(Pl.run s.data.toList).toArray⟩
def aftB (s : ByteArray) : ByteArray := ⟨(Pl.after s.data.toList).toArray⟩
def sigB (s : ByteArray) : ByteArray := ⟨(Pl.sig (Pl.run s.data.toList)).toArray⟩
theorem runB_data (s : ByteArray) : (runB s).data.toList = Pl.run s.data.toList := rfl
theorem aftB_data (s : ByteArray) : (aftB s).data.toList = Pl.after s.data.toList := rfl
theorem sigB_data (s : ByteArray) : (sigB s).data.toList = Pl.sig (Pl.run s.data.toList) := rfl
theorem take_run (l : List UInt8) : l.take (Pl.run l).length = Pl.run l := by
  have := Pl.run_after l
  conv => lhs; arg 2; rw [← this]
  simp
theorem drop_run (l : List UInt8) : l.drop (Pl.run l).length = Pl.after l := by
  have := Pl.run_after l
  conv => lhs; arg 2; rw [← this]
  simp
theorem run_take (s : ByteArray) : s.extract 0 (Pl.run s.data.toList).length = runB s := by
  apply ba_ext
  rw [Lib.extract_data, List.drop_zero, Nat.sub_zero]
  exact take_run _
theorem run_drop (s : ByteArray) : s.extract (Pl.run s.data.toList).length s.size = aftB s := by
  apply ba_ext
  rw [Lib.extract_data, List.take_of_length_le (by rw [List.length_drop, ba_len]; exact Nat.le_refl _)]
  exact drop_run _

theorem trim_digits (s : ByteArray) (W : World) :
    Calls Tryd.prog 45 #[.string s, .string ⟨#[48, 49, 50, 51, 52, 53, 54, 55, 56, 57]⟩] W fun e w' => e = .returned (.string (aftB s)) ∧ Below W.heap.size W w' := by
  have h := Tryd.strings_TrimLeft_digits s W
  rw [after_set] at h
  exact h
theorem trim_zeros (s : ByteArray) (W : World) :
    Calls Tryd.prog 45 #[.string (runB s), .string ⟨#[48]⟩] W fun e w' => e = .returned (.string (sigB s)) ∧ w' = W :=
  Tryd.strings_TrimLeft_one (runB s) 48 (by decide) W

set_option maxRecDepth 100000 in
set_option maxHeartbeats 1000000 in
theorem split_any (s : ByteArray) (w : World) (hs : s.size ≤ 1048576) :
    Calls Tryd.prog 44 #[.string s] w fun e w' => e = .returned (.tuple #[.string (sigB s), .string (aftB s)]) ∧ Below w.heap.size w w' := by
  have H1 := hid_mk (trim_digits s)
  have H2 := hid_mk (trim_zeros s)
  have hl := Pl.run_len s.data.toList
  rw [ba_len] at hl
  have hat : (aftB s).size = (Pl.after s.data.toList).length := by rw [← ba_len, aftB_data]
  have hrt := run_take s
  generalize aftB s = T at *
  generalize runB s = R at *
  generalize sigB s = G at *
  rw [← hat] at hl
  clear hat
  generalize (Pl.run s.data.toList).length = L at *
  have e1 : (s.size : Int) - (T.size : Int) = (L : Int) := by omega
  go_enter Tryd.func44, Tryd.ntmps44
  go_upto_region 2 with (go_at_call 45; refine (H1.out _).mono ?_; rintro e w1 ⟨rfl, hb⟩)
  go_wp2_with (go_at_call 45; refine (H2.out _).mono ?_; rintro e w2 ⟨rfl, hw⟩; obtain rfl := hw.symm)
  exact bodyPost_ret (v := .tuple #[.string G, .string T]) (by simp [results, Tryd.results44, go_sem]) rfl ⟨rfl, hb⟩

theorem compare_any (x y : ByteArray) (W : World) : Calls Tryd.prog 46 #[.string x, .string y] W fun e w' => e = .returned (.int .i64 (Pl.cmp x.data.toList y.data.toList)) ∧ w' = W :=
  Tryd.strings_Compare x y W

theorem empty_of {s : ByteArray} (h : s.toList.isEmpty = true) : s = ⟨#[]⟩ := by
  apply ba_ext
  rw [Lib.toList_data] at h
  simpa using h
theorem sizes (s : ByteArray) : (sigB s).size = (Pl.sig (Pl.run s.data.toList)).length ∧ (sigB s).size ≤ s.size ∧ (aftB s).size ≤ s.size ∧ (runB s).size ≤ s.size := by
  have h1 := Pl.sig_len (Pl.run s.data.toList)
  have h2 := Pl.run_len s.data.toList
  rw [ba_len] at h2
  have e1 : (sigB s).size = (Pl.sig (Pl.run s.data.toList)).length := by rw [← ba_len, sigB_data]
  have e2 : (aftB s).size = (Pl.after s.data.toList).length := by rw [← ba_len, aftB_data]
  have e3 : (runB s).size = (Pl.run s.data.toList).length := by rw [← ba_len, runB_data]
  omega

set_option maxRecDepth 100000 in
set_option maxHeartbeats 1000000 in
theorem cb_any (a b : ByteArray) (w : World) (ha : a.size ≤ 1048576) (hb : b.size ≤ 1048576) :
    Calls Tryd.prog 34 #[.string a, .string b] w fun e w' => e = .returned (.int .i64 (Pl.cb a.data.toList b.data.toList)) ∧ Below w.heap.size w w' := by
  obtain ⟨A, hA⟩ : ∃ A, Pl.cb a.data.toList b.data.toList = A := ⟨_, rfl⟩
  rw [hA]
  cases h1 : a.toList.isEmpty with
  | true =>
    obtain rfl := empty_of h1
    have HE : Hid (A = - (b.size : Int)) := hid_mk (by
      rw [← hA]; unfold Pl.cb; rw [if_pos (Or.inl rfl), ba_len b]; show (0 : Int) - (b.size : Int) = _; omega)
    clear hA h1
    go_enter Tryd.func34, Tryd.ntmps34
    go_wp2_with fail
    go_ret
    exact ⟨by rw [HE.out] <;> rfl, Below.refl _ _⟩
  | false =>
    cases h2 : b.toList.isEmpty with
    | true =>
      obtain rfl := empty_of h2
      have HE : Hid (A = (a.size : Int) - 0) := hid_mk (by
        rw [← hA]; unfold Pl.cb; rw [if_pos (Or.inr rfl), ba_len]; rfl)
      clear hA h2
      go_enter Tryd.func34, Tryd.ntmps34
      go_wp2_with fail
      go_ret
      exact ⟨by rw [HE.out] <;> rfl, Below.refl _ _⟩
    | false =>
      have hA2 : A = if (sigB a).size ≠ (sigB b).size then ((sigB a).size : Int) - ((sigB b).size : Int) else if Pl.cmp (sigB a).data.toList (sigB b).data.toList ≠ 0 then Pl.cmp (sigB a).data.toList (sigB b).data.toList else Pl.cmp (aftB a).data.toList (aftB b).data.toList := by
        have n1 : a.data.toList ≠ [] := fun h => by rw [Lib.toList_data, h] at h1; cases h1
        have n2 : b.data.toList ≠ [] := fun h => by rw [Lib.toList_data, h] at h2; cases h2
        rw [← hA]
        unfold Pl.cb
        rw [if_neg (by simp [n1, n2]), (sizes a).1, (sizes b).1]
        rfl
      have sa := sizes a
      have sb := sizes b
      have H44 := hid_mk fun W => split_any a W ha
      have H45 := hid_mk fun W => split_any b W hb
      clear hA
      obtain ⟨-, sa1, -, -⟩ := sa
      obtain ⟨-, sb1, -, -⟩ := sb
      generalize sigB a = ga at *
      generalize sigB b = gb at *
      generalize aftB a = ta at *
      generalize aftB b = tb at *
      have HA := hid_mk hA2
      clear hA2
      by_cases h3 : ga.size = gb.size
      · have h3' : (ga.size : Int) - (gb.size : Int) = 0 := by omega
        by_cases h4 : Pl.cmp ga.data.toList gb.data.toList = 0
        · have HE : Hid (A = Pl.cmp ta.data.toList tb.data.toList) := hid_mk (by rw [HA.out, if_neg (by simp [h3]), if_neg (by simp [h4])])
          have H4 := hid_mk h4
          clear HA h3 h4
          go_enter Tryd.func34, Tryd.ntmps34
          go_upto_region 5 with (go_at_call 44; refine (H44.out _).mono ?_; rintro e w1 ⟨rfl, hb1⟩)
          go_upto_region 6 with (go_at_call 44; refine (H45.out _).mono ?_; rintro e w2 ⟨rfl, hb2⟩)
          go_upto_region 10 with (go_at_call 46; refine (compare_any _ _ _).mono ?_; rw [H4.out]; rintro e w3 ⟨rfl, hw⟩; obtain rfl := hw.symm)
          go_wp2_with (go_at_call 46; refine (compare_any _ _ _).mono ?_; rw [← HE.out]; rintro e w3 ⟨rfl, hw⟩; obtain rfl := hw.symm)
          go_ret
          exact ⟨rfl, hb1.trans (hb2.mono hb1.size)⟩
        · have HE : Hid (A = Pl.cmp ga.data.toList gb.data.toList) := hid_mk (by rw [HA.out, if_neg (by simp [h3]), if_pos h4])
          have h5 : (A == 0) = false := by rw [beq_eq_false_iff_ne, HE.out]; exact h4
          clear HA h3 h4
          go_enter Tryd.func34, Tryd.ntmps34
          go_upto_region 5 with (go_at_call 44; refine (H44.out _).mono ?_; rintro e w1 ⟨rfl, hb1⟩)
          go_upto_region 6 with (go_at_call 44; refine (H45.out _).mono ?_; rintro e w2 ⟨rfl, hb2⟩)
          go_wp2_with (go_at_call 46; refine (compare_any _ _ _).mono ?_; rw [← HE.out]; rintro e w3 ⟨rfl, hw⟩; obtain rfl := hw.symm)
          go_ret
          exact ⟨rfl, hb1.trans (hb2.mono hb1.size)⟩
      · have HE : Hid (A = (ga.size : Int) - (gb.size : Int)) := hid_mk (by rw [HA.out, if_pos h3])
        have h5 : ((ga.size : Int) - (gb.size : Int) == 0) = false := by rw [beq_eq_false_iff_ne]; omega
        clear HA h3
        go_enter Tryd.func34, Tryd.ntmps34
        go_upto_region 5 with (go_at_call 44; refine (H44.out _).mono ?_; rintro e w1 ⟨rfl, hb1⟩)
        go_upto_region 6 with (go_at_call 44; refine (H45.out _).mono ?_; rintro e w2 ⟨rfl, hb2⟩)
        go_wp2_with fail
        go_ret
        exact ⟨by rw [HE.out] <;> rfl, hb1.trans (hb2.mono hb1.size)⟩
end Go.Proofs.Qxb6601124aDoor
