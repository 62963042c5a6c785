/-
  The walk of 'plainModel', and of the bound on the lengths.
-/
import Derived.Test.Qxb6604302aDoorSub
namespace Go.Proofs.Qxb6604302aDoor
open Go.RowKit
set_option linter.unusedVariables false

set_option maxHeartbeats 400000 in
theorem bytes_any (a b c : ByteArray) (w : World) (ha : a.size ≤ maxLen) (hb : b.size ≤ maxLen) (hc : c.size ≤ maxLen) :
    Calls Tryd.prog 11 #[.string a, .string b, .string c] w fun e w' => e = .returned (.bool (decide (a.size + b.size + c.size ≤ 1048576))) ∧ w' = w := by
  unfold maxLen at ha hb hc
  by_cases h1 : a.size ≤ 1048576
  · by_cases h2 : b.size ≤ 1048576
    · by_cases h3 : a.size + b.size ≤ 1048576
      · by_cases h4 : c.size ≤ 1048576
        · by_cases h5 : a.size + b.size + c.size ≤ 1048576
          · have HD : Hid (decide (a.size + b.size + c.size ≤ 1048576) = true) := decide_eq_true h5
            go_enter Tryd.func11, Tryd.ntmps11
            go_wp2
            go_ret
            exact ⟨by rw [HD.out]; rfl, rfl⟩
          · have HD : Hid (decide (a.size + b.size + c.size ≤ 1048576) = false) := decide_eq_false h5
            go_enter Tryd.func11, Tryd.ntmps11
            go_wp2
            go_ret
            exact ⟨by rw [HD.out]; rfl, rfl⟩
        · have HD : Hid (decide (a.size + b.size + c.size ≤ 1048576) = false) := decide_eq_false (by omega)
          go_enter Tryd.func11, Tryd.ntmps11
          go_wp2
          go_ret
          exact ⟨by rw [HD.out]; rfl, rfl⟩
      · have HD : Hid (decide (a.size + b.size + c.size ≤ 1048576) = false) := decide_eq_false (by omega)
        go_enter Tryd.func11, Tryd.ntmps11
        go_wp2
        go_ret
        exact ⟨by rw [HD.out]; rfl, rfl⟩
    · have HD : Hid (decide (a.size + b.size + c.size ≤ 1048576) = false) := decide_eq_false (by omega)
      go_enter Tryd.func11, Tryd.ntmps11
      go_wp2
      go_ret
      exact ⟨by rw [HD.out]; rfl, rfl⟩
  · have HD : Hid (decide (a.size + b.size + c.size ≤ 1048576) = false) := decide_eq_false (by omega)
    go_enter Tryd.func11, Tryd.ntmps11
    go_wp2
    go_ret
    exact ⟨by rw [HD.out]; rfl, rfl⟩

set_option maxRecDepth 100000 in
set_option maxHeartbeats 1000000 in
theorem model_refused (es ds bs : ByteArray) (w : World) (he : es.size ≤ 1048576) (hd : ds.size ≤ 1048576)
    (hc : (Lib.contains es.data.toList [37, 50, 70] || Lib.contains es.data.toList [37, 50, 102] || Lib.contains ds.data.toList [92]) = true) :
    Calls Tryd.prog 13 #[.string es, .string ds, .string bs] w fun e w' => e = .returned (.bool false) ∧ ∃ n, w' = w.drewN n := by
  cases h1 : Lib.contains es.data.toList [37, 50, 70] with
  | true =>
    clear hc
    go_enter Tryd.func13, Tryd.ntmps13
    go_wp2_with (go_at_call 21; refine (hasSub_any _ _ _ (by omega) (by decide) (by decide)).mono ?_; rintro e w' ⟨rfl, n, rfl⟩)
    go_ret
    exact ⟨rfl, _, rfl⟩
  | false =>
    cases h2 : Lib.contains es.data.toList [37, 50, 102] with
    | true =>
      clear hc
      go_enter Tryd.func13, Tryd.ntmps13
      go_wp2_with (go_at_call 21; refine (hasSub_any _ _ _ (by omega) (by decide) (by decide)).mono ?_; rintro e w' ⟨rfl, n, rfl⟩)
      go_ret
      exact ⟨rfl, _, rfl⟩
    | false =>
      have h3 : Lib.contains ds.data.toList [92] = true := by rw [h1, h2] at hc; simpa using hc
      clear hc
      go_enter Tryd.func13, Tryd.ntmps13
      go_wp2_with (go_at_call 21; refine (hasSub_any _ _ _ (by omega) (by decide) (by decide)).mono ?_; rintro e w' ⟨rfl, n, rfl⟩)
      go_ret
      exact ⟨rfl, _, rfl⟩

set_option maxRecDepth 100000 in
set_option maxHeartbeats 1000000 in
theorem model_one (es ds bs : ByteArray) (w : World) (he : es.size ≤ 1048576) (hd : ds.size ≤ 1048576) (hb : bs.size ≤ 1048576)
    (h1 : Lib.contains es.data.toList [37, 50, 70] = false) (h2 : Lib.contains es.data.toList [37, 50, 102] = false) (h3 : Lib.contains ds.data.toList [92] = false)
    (h4 : bs.data.toList = [47]) :
    Calls Tryd.prog 13 #[.string es, .string ds, .string bs] w fun e w' => e = .returned (.bool true) ∧ ∃ n, w' = w.drewN n := by
  have g1 : (bs.toList == [47]) = true := by rw [Lib.toList_data, h4]; rfl
  clear h4
  go_enter Tryd.func13, Tryd.ntmps13
  go_wp2_with (go_at_call 21; refine (hasSub_any _ _ _ (by first | assumption | omega) (by decide) (by decide)).mono ?_; rintro e w' ⟨rfl, n, rfl⟩)
  go_ret
  exact ⟨rfl, _, rfl⟩

set_option maxRecDepth 100000 in
set_option maxHeartbeats 1000000 in
theorem model_two (es ds bs : ByteArray) (w : World) (he : es.size ≤ 1048576) (hd : ds.size ≤ 1048576) (hb : bs.size ≤ 1048576)
    (h1 : Lib.contains es.data.toList [37, 50, 70] = false) (h2 : Lib.contains es.data.toList [37, 50, 102] = false) (h3 : Lib.contains ds.data.toList [92] = false)
    (h4 : bs.data.toList = [47, 47]) :
    Calls Tryd.prog 13 #[.string es, .string ds, .string bs] w fun e w' => e = .returned (.bool true) ∧ ∃ n, w' = w.drewN n := by
  have g1 : (bs.toList == [47]) = false := by rw [Lib.toList_data, h4]; rfl
  have g2 : (bs.toList == [47, 47]) = true := by rw [Lib.toList_data, h4]; rfl
  clear h4
  go_enter Tryd.func13, Tryd.ntmps13
  go_wp2_with (go_at_call 21; refine (hasSub_any _ _ _ (by first | assumption | omega) (by decide) (by decide)).mono ?_; rintro e w' ⟨rfl, n, rfl⟩)
  go_ret
  exact ⟨rfl, _, rfl⟩

theorem not_head {bs : ByteArray} (h4 : Lib.hasPrefix bs.data.toList [47] = false) : (bs.toList == [47]) = false ∧ (bs.toList == [47, 47]) = false ∧ ((∃ _ : 0 < bs.size, ((bs.size : Int) == 0) = false ∧ ((bs[0].toNat : Int) != 47) = true) ∨ bs = ByteArray.empty) := by
  rw [Lib.toList_data]
  refine ⟨?_, ?_, ?_⟩
  · rw [beq_eq_false_iff_ne]; intro e; rw [e] at h4; simp [Lib.hasPrefix] at h4
  · rw [beq_eq_false_iff_ne]; intro e; rw [e] at h4; simp [Lib.hasPrefix] at h4
  · by_cases hz : 0 < bs.size
    · refine .inl ⟨hz, by rw [beq_eq_false_iff_ne]; omega, ?_⟩
      rw [bne_iff_ne]
      intro e
      have hg := ba_get bs 0 hz
      have e8 : bs[0] = 47 := UInt8.toNat_inj.1 (by have : (bs[0].toNat : Int) = 47 := e; show bs[0].toNat = 47; omega)
      rw [e8] at hg
      match hl : bs.data.toList, hg, h4 with
      | c :: l, hg, h4 =>
        simp at hg; subst hg
        simp [Lib.hasPrefix] at h4
    · refine .inr ?_
      have : bs.data.toList = [] := List.eq_nil_of_length_eq_zero (by rw [ba_len]; omega)
      have := Lib.mk_data bs
      rw [← this]
      simp [*]
      rfl

set_option maxRecDepth 100000 in
set_option maxHeartbeats 1000000 in
theorem model_nohead (es ds bs : ByteArray) (w : World) (he : es.size ≤ 1048576) (hd : ds.size ≤ 1048576) (hb : bs.size ≤ 1048576)
    (h1 : Lib.contains es.data.toList [37, 50, 70] = false) (h2 : Lib.contains es.data.toList [37, 50, 102] = false) (h3 : Lib.contains ds.data.toList [92] = false)
    (h4 : Lib.hasPrefix bs.data.toList [47] = false) :
    Calls Tryd.prog 13 #[.string es, .string ds, .string bs] w fun e w' => e = .returned (.bool false) ∧ ∃ n, w' = w.drewN n := by
  obtain ⟨g1, g2, ⟨g3, g4, g5⟩ | g3⟩ := not_head h4
  · clear h4
    go_enter Tryd.func13, Tryd.ntmps13
    go_wp2_with (go_at_call 21; refine (hasSub_any _ _ _ (by first | assumption | omega) (by decide) (by decide)).mono ?_; rintro e w' ⟨rfl, n, rfl⟩)
    go_ret
    exact ⟨rfl, _, rfl⟩
  · clear h4 g1 g2
    subst g3
    go_enter Tryd.func13, Tryd.ntmps13
    go_wp2_with (go_at_call 21; refine (hasSub_any _ _ _ (by first | assumption | omega) (by decide) (by decide)).mono ?_; rintro e w' ⟨rfl, n, rfl⟩)
    go_ret
    exact ⟨rfl, _, rfl⟩

set_option maxRecDepth 100000 in
set_option maxHeartbeats 1000000 in
theorem model_loop (es ds bs : ByteArray) (w : World) (he : es.size ≤ 1048576) (hd : ds.size ≤ 1048576) (hb : bs.size ≤ 1048576)
    (h1 : Lib.contains es.data.toList [37, 50, 70] = false) (h2 : Lib.contains es.data.toList [37, 50, 102] = false) (h3 : Lib.contains ds.data.toList [92] = false)
    (g1 : (bs.toList == [47]) = false) (g2 : (bs.toList == [47, 47]) = false) (g3 : 0 < bs.size) (g4 : ((bs.size : Int) == 0) = false) (g5 : ((bs[0].toNat : Int) != 47) = false)
    (g6 : ((bs[bs.size - 1].toNat : Int) != 47) = false) :
    Calls Tryd.prog 13 #[.string es, .string ds, .string bs] w fun e w' => e = .returned (.bool (!Lib.contains bs.data.toList [47, 47] && !Lib.contains bs.data.toList [47, 46, 47] && !Lib.contains bs.data.toList [47, 46, 46, 47])) ∧ ∃ n, w' = w.drewN n := by
  cases c1 : Lib.contains bs.data.toList [47, 47] with
  | true =>
    go_enter Tryd.func13, Tryd.ntmps13
    go_wp2_with (go_at_call 21; refine (hasSub_any _ _ _ (by first | assumption | omega) (by decide) (by decide)).mono ?_; rintro e w' ⟨rfl, n, rfl⟩)
    go_ret
    exact ⟨rfl, _, rfl⟩
  | false =>
    cases c2 : Lib.contains bs.data.toList [47, 46, 47] with
    | true =>
      go_enter Tryd.func13, Tryd.ntmps13
      go_wp2_with (go_at_call 21; refine (hasSub_any _ _ _ (by first | assumption | omega) (by decide) (by decide)).mono ?_; rintro e w' ⟨rfl, n, rfl⟩)
      go_ret
      exact ⟨rfl, _, rfl⟩
    | false =>
      go_enter Tryd.func13, Tryd.ntmps13
      go_wp2_with (go_at_call 21; refine (hasSub_any _ _ _ (by first | assumption | omega) (by decide) (by decide)).mono ?_; rintro e w' ⟨rfl, n, rfl⟩)
      go_ret
      exact ⟨rfl, _, rfl⟩

set_option maxRecDepth 100000 in
set_option maxHeartbeats 1000000 in
theorem model_loop2 (es ds bs : ByteArray) (w : World) (he : es.size ≤ 1048576) (hd : ds.size ≤ 1048576) (hb : bs.size ≤ 1048576)
    (h1 : Lib.contains es.data.toList [37, 50, 70] = false) (h2 : Lib.contains es.data.toList [37, 50, 102] = false) (h3 : Lib.contains ds.data.toList [92] = false)
    (g1 : (bs.toList == [47]) = false) (g2 : (bs.toList == [47, 47]) = false) (g3 : 0 < bs.size) (g4 : ((bs.size : Int) == 0) = false) (g5 : ((bs[0].toNat : Int) != 47) = false)
    (g6 : ((bs[bs.size - 1].toNat : Int) != 47) = true) :
    Calls Tryd.prog 13 #[.string es, .string ds, .string bs] w fun e w' => e = .returned (.bool (!Lib.contains (bs.data.toList ++ [47]) [47, 47] && !Lib.contains (bs.data.toList ++ [47]) [47, 46, 47] && !Lib.contains (bs.data.toList ++ [47]) [47, 46, 46, 47])) ∧ ∃ n, w' = w.drewN n := by
  have hz : (bs ++ ⟨#[47]⟩ : ByteArray).size ≤ 2097152 := by
    have := ByteArray.size_append (a := bs) (b := ⟨#[47]⟩)
    have e : (⟨#[47]⟩ : ByteArray).size = 1 := rfl
    omega
  cases c1 : Lib.contains (bs.data.toList ++ [47]) [47, 47] with
  | true =>
    go_enter Tryd.func13, Tryd.ntmps13
    go_wp2_with (go_at_call 21; refine (hasSub_any _ _ _ (by first | assumption | omega) (by decide) (by decide)).mono ?_; rintro e w' ⟨rfl, n, rfl⟩)
    go_ret
    exact ⟨rfl, _, rfl⟩
  | false =>
    cases c2 : Lib.contains (bs.data.toList ++ [47]) [47, 46, 47] with
    | true =>
      go_enter Tryd.func13, Tryd.ntmps13
      go_wp2_with (go_at_call 21; refine (hasSub_any _ _ _ (by first | assumption | omega) (by decide) (by decide)).mono ?_; rintro e w' ⟨rfl, n, rfl⟩)
      go_ret
      exact ⟨rfl, _, rfl⟩
    | false =>
      go_enter Tryd.func13, Tryd.ntmps13
      go_wp2_with (go_at_call 21; refine (hasSub_any _ _ _ (by first | assumption | omega) (by decide) (by decide)).mono ?_; rintro e w' ⟨rfl, n, rfl⟩)
      go_ret
      exact ⟨rfl, _, rfl⟩
end Go.Proofs.Qxb6604302aDoor
