/-
  FnWithoutParametersMatchesScan, FnWithoutParametersIdempotentKeepsSlashes: the walks of the two laws.
-/
import Derived.Test.Qxb6604302aDoorWith
import Derived.Test.Qxb6604302aDoorCount
namespace Go.Proofs.Qxb6604302aDoor
open Go.RowKit

theorem below_cell {n : Nat} {w w1 : World} {m : Int} (h : Below n w w1) (hn : n = w.heap.size) (hm : w.cell? ⟨0, 0, none⟩ = some (.int .i64 m)) : w1.cell? ⟨0, 0, none⟩ = some (.int .i64 m) := by
  subst hn
  exact (h.cell (p := ⟨0, 0, none⟩) (cell_lt hm)).trans hm

set_option maxHeartbeats 400000 in
/-- **The law answers true.** -/
theorem law_scan (p : ByteArray) (w : World) (m : Int) (hp : p.size ≤ maxLen) (hm : w.cell? ⟨0, 0, none⟩ = some (.int .i64 m)) :
    Calls Tryd.prog 3 #[.string p] w fun e w' => e = .returned (.bool true) ∧ Below w.heap.size w w' := by
  by_cases hz : p.size ≤ 1048576
  · have hdz : decide (p.size ≤ 1048576) = true := decide_eq_true hz
    have c7 := with_any p w m hz hm
    have c8 := fun w => scan_any p w hz
    generalize (⟨(Pl.scan false p.data.toList).toArray⟩ : ByteArray) = q at c7 c8
    have H7 := hid_mk c7
    have H8 := hid_mk c8
    clear c7 c8
    go_enter Tryd.func3, Tryd.ntmps3
    go_wp2_with (first
      | (go_at_call 6; refine (bytes1_any _ _ hp).mono ?_; rintro e w1 ⟨rfl, hw⟩; obtain rfl := hw.symm)
      | (go_at_call 7; refine H7.out.mono ?_; rintro e w2 ⟨rfl, hb⟩)
      | (go_at_call 8; refine (H8.out _).mono ?_; rintro e w3 ⟨rfl, hb3⟩))
    go_ret
    exact ⟨rfl, hb.trans (hb3.mono hb.size)⟩
  · have hdz : decide (p.size ≤ 1048576) = false := decide_eq_false hz
    go_enter Tryd.func3, Tryd.ntmps3
    go_wp2_with (go_at_call 6; refine (bytes1_any _ _ hp).mono ?_; rintro e w1 ⟨rfl, hw⟩; obtain rfl := hw.symm)
    go_ret
    exact ⟨rfl, Below.refl _ _⟩

theorem cnt_any (s : ByteArray) (n : Int) (k : Nat) (c : UInt8) (w : World) (hs : s.size ≤ 1048576) (hn : n = (c.toNat : Int)) (hk : s.data.toList.count c = k) :
    Calls Tryd.prog 10 #[.string s, .int .u8 n] w fun e w' => e = .returned (.int .i64 (k : Int)) ∧ w' = w := by
  subst hn; subst hk
  exact count_any s c w hs

set_option maxHeartbeats 400000 in
/-- **The law answers true.** -/
theorem law_idem (p : ByteArray) (w : World) (m : Int) (hp : p.size ≤ maxLen) (hm : w.cell? ⟨0, 0, none⟩ = some (.int .i64 m)) :
    Calls Tryd.prog 4 #[.string p] w fun e w' => e = .returned (.bool true) ∧ Below w.heap.size w w' := by
  by_cases hz : p.size ≤ 1048576
  · have hdz : decide (p.size ≤ 1048576) = true := decide_eq_true hz
    have c7 := with_any p w m hz hm
    have l1 := Pl.scan_len false p.data.toList
    have l2 := Pl.scan_no_semi false p.data.toList
    have l3 := Pl.scan_slash false p.data.toList
    have l4 : Pl.scan false (Pl.scan false p.data.toList) = Pl.scan false p.data.toList := Pl.scan_id _ (List.count_eq_zero.1 l2)
    obtain ⟨q, hq⟩ : ∃ q : ByteArray, (⟨(Pl.scan false p.data.toList).toArray⟩ : ByteArray) = q := ⟨_, rfl⟩
    have hqd : q.data.toList = Pl.scan false p.data.toList := by rw [← hq]
    rw [hq] at c7
    rw [← hqd] at l1 l2 l3 l4
    clear hq hqd
    rw [ba_len, ba_len] at l1
    have c7q : ∀ W : World, W.cell? ⟨0, 0, none⟩ = some (.int .i64 m) → Calls Tryd.prog 7 #[.string q] W fun e w' => e = .returned (.string q) ∧ Below W.heap.size W w' := fun W hW => by
      have := with_any q W m (by omega) hW
      rw [l4] at this
      exact this
    clear l4
    have a1 := fun W => cnt_any q 59 0 59 W (by omega) rfl l2
    have a2 := fun W => cnt_any q 47 (p.data.toList.count 47) 47 W (by omega) rfl l3
    have a3 := fun W => cnt_any p 47 (p.data.toList.count 47) 47 W (by omega) rfl rfl
    generalize p.data.toList.count 47 = k at a2 a3
    have H7 := hid_mk c7
    have H7q := hid_mk c7q
    have H1 := hid_mk a1
    have H2 := hid_mk a2
    have H3 := hid_mk a3
    clear c7 c7q a1 a2 a3 l2 l3
    go_enter Tryd.func4, Tryd.ntmps4
    go_wp2_with (go_at_call 9; refine (bytes2_any _ _ hp).mono ?_; rintro e w1 ⟨rfl, hw⟩; obtain rfl := hw.symm)
    refine H7.out.mono ?_
    rintro e w2 ⟨rfl, hb2⟩
    have hm2 := below_cell hb2 rfl hm
    go_wp2_with fail
    refine (H1.out _).mono ?_
    rintro e w3 ⟨rfl, hw⟩
    obtain rfl := hw.symm
    go_wp2_with fail
    refine (H7q.out _ hm2).mono ?_
    rintro e w3 ⟨rfl, hb3⟩
    go_wp2_with fail
    refine (H2.out _).mono ?_
    rintro e w4 ⟨rfl, hw⟩
    obtain rfl := hw.symm
    go_wp2_with fail
    refine (H3.out _).mono ?_
    rintro e w4 ⟨rfl, hw⟩
    obtain rfl := hw.symm
    go_wp2_with fail
    go_ret
    exact ⟨rfl, hb2.trans (hb3.mono hb2.size)⟩
  · have hdz : decide (p.size ≤ 1048576) = false := decide_eq_false hz
    go_enter Tryd.func4, Tryd.ntmps4
    go_wp2_with (go_at_call 9; refine (bytes2_any _ _ hp).mono ?_; rintro e w1 ⟨rfl, hw⟩; obtain rfl := hw.symm)
    go_ret
    exact ⟨rfl, Below.refl _ _⟩
end Go.Proofs.Qxb6604302aDoor
