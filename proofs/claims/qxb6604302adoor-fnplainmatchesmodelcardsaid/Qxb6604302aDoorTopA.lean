/-
  FnPlainMatchesModel: the two answers are one; the walk of the law.
-/
import Derived.Test.Qxb6604302aDoorPl
import Derived.Test.Qxb6604302aDoorModel
import Derived.WalkSmall
namespace Go.Proofs.Qxb6604302aDoor
open Go.RowKit Go.Shelf

/-- The two functions answer alike. -/
theorem both (es ds bs : ByteArray) (m : Int) (he : es.size ≤ 1048576) (hd : ds.size ≤ 1048576) (hb : bs.size ≤ 1048576) :
    ∃ b : Bool, (∀ w : World, w.cell? ⟨0, 0, none⟩ = some (.int .i64 m) → Calls Tryd.prog 12 #[.string es, .string ds, .string bs] w fun e w' => e = .returned (.bool b) ∧ Below w.heap.size w w') ∧
      (∀ w : World, Calls Tryd.prog 13 #[.string es, .string ds, .string bs] w fun e w' => e = .returned (.bool b) ∧ ∃ n, w' = w.drewN n) := by
  cases hc : (Lib.contains es.data.toList [37, 50, 70] || Lib.contains es.data.toList [37, 50, 102] || Lib.contains ds.data.toList [92]) with
  | true => exact ⟨false, fun w hm => plain_refused es ds bs w m he hd hm hc, fun w => model_refused es ds bs w he hd hc⟩
  | false =>
    simp only [Bool.or_eq_false_iff] at hc
    obtain ⟨⟨h1, h2⟩, h3⟩ := hc
    cases h4 : Lib.hasPrefix bs.data.toList [47] with
    | false => exact ⟨false, fun w hm => plain_nohead es ds bs w m he hd hm h1 h2 h3 h4, fun w => model_nohead es ds bs w he hd hb h1 h2 h3 h4⟩
    | true =>
      obtain ⟨t, ht⟩ : ∃ t, bs.data.toList = 47 :: t := by
        match hl : bs.data.toList, h4 with
        | c :: l, h4 =>
          have : 47 = c := by simpa [Lib.hasPrefix] using h4
          exact ⟨l, by rw [← this]⟩
      have ep : Lib.trimPrefix bs.data.toList [47] = t := by rw [Lib.trimPrefix, if_pos h4, ht]; rfl
      have hsz : 0 < bs.size := by rw [← ba_len, ht]; simp
      by_cases h5 : Lib.trimSuffix (Lib.trimPrefix bs.data.toList [47]) [47] = []
      · refine ⟨true, fun w hm => plain_bare es ds bs w m he hd hb hm h1 h2 h3 h4 h5, fun w => ?_⟩
        rw [ep] at h5
        cases t with
        | nil => exact model_one es ds bs w he hd hb h1 h2 h3 ht
        | cons c t =>
          have : c :: t = [47] := by
            unfold Lib.trimSuffix at h5
            split at h5
            · rename_i hs
              have hl : (c :: t).length - 1 = 0 := by
                have := congrArg List.length h5
                simpa using this
              have : t = [] := List.eq_nil_of_length_eq_zero (by simpa using hl)
              subst this
              have h47 : 47 = c := by
                have hp := List.isSuffixOf_iff_suffix.1 hs
                have := hp.eq_of_length rfl
                simpa using this
              rw [← h47]
            · cases h5
          rw [this] at ht
          exact model_two es ds bs w he hd hb h1 h2 h3 ht
      · refine ⟨(Pl.segs (Lib.trimSuffix (Lib.trimPrefix bs.data.toList [47]) [47])).all Pl.good, fun w hm => plain_loop es ds bs w m he hd hb hm h1 h2 h3 h4 h5, fun w => ?_⟩
        rw [ep] at h5 ⊢
        have g1 : (bs.toList == [47]) = false := by
          rw [Lib.toList_data, ht, beq_eq_false_iff_ne]; intro e
          have : t = [] := by simpa using e
          subst this; exact h5 rfl
        have g2 : (bs.toList == [47, 47]) = false := by
          rw [Lib.toList_data, ht, beq_eq_false_iff_ne]; intro e
          have : t = [47] := by simpa using e
          subst this; exact h5 (by decide)
        have g4 : ((bs.size : Int) == 0) = false := by rw [beq_eq_false_iff_ne]; omega
        have g5 : ((bs[0].toNat : Int) != 47) = false := by
          have := ba_get bs 0 hsz
          rw [ht] at this
          have e : bs[0] = 47 := by simpa using this.symm
          rw [e]; rfl
        have hlast := ba_get bs (bs.size - 1) (by omega)
        have key : ∀ r : List UInt8, (!Lib.contains (47 :: (r ++ [47])) [47, 47] && !Lib.contains (47 :: (r ++ [47])) [47, 46, 47] && !Lib.contains (47 :: (r ++ [47])) [47, 46, 46, 47]) = (Pl.segs r).all Pl.good := by
          intro r
          rw [Bool.eq_iff_iff, Pl.all_good]
          simp only [Bool.and_eq_true, Bool.not_eq_true', Bool.eq_false_iff, ne_eq, Pl.contains_iff, and_assoc]
        cases g6 : ((bs[bs.size - 1].toNat : Int) != 47) with
        | false =>
          have e8 : bs[bs.size - 1] = 47 := u8_eq (b := 47) g6
          have hs : Lib.hasSuffix t [47] = true := by
            unfold Lib.hasSuffix
            rw [List.isSuffixOf_iff_suffix]
            have hne : t ≠ [] := by intro e; subst e; exact h5 rfl
            refine ⟨t.dropLast, ?_⟩
            have hl2 : t.getLast hne = 47 := by
              rw [e8, ht] at hlast
              have hsz2 : bs.size = t.length + 1 := by rw [← ba_len, ht]; simp
              rw [hsz2] at hlast
              have hpos : 0 < t.length := List.length_pos_iff.2 hne
              rw [List.getLast_eq_getElem]
              have : (47 :: t)[t.length]? = some 47 := by simpa using hlast
              have h2 : t.length = (t.length - 1) + 1 := by omega
              rw [h2, List.getElem?_cons_succ, List.getElem?_eq_getElem (by omega)] at this
              exact Option.some.inj this
            rw [← hl2, List.dropLast_concat_getLast]
          obtain ⟨r, hr⟩ : ∃ r, t = r ++ [47] := by
            obtain ⟨r, hr⟩ := List.isSuffixOf_iff_suffix.1 hs
            exact ⟨r, hr.symm⟩
          have et : Lib.trimSuffix t [47] = r := by
            rw [Lib.trimSuffix, if_pos hs, hr]; simp
          rw [et, ← key r]
          have eb : bs.data.toList = 47 :: (r ++ [47]) := by rw [ht, hr]
          have := model_loop es ds bs w he hd hb h1 h2 h3 g1 g2 hsz g4 g5 g6
          rw [eb] at this
          exact this
        | true =>
          have e8 : bs[bs.size - 1] ≠ 47 := u8_ne (b := 47) g6
          have hs : Lib.hasSuffix t [47] = false := by
            rw [Bool.eq_false_iff]
            intro hs
            obtain ⟨r, hr⟩ := List.isSuffixOf_iff_suffix.1 hs
            apply e8
            have hsz2 : bs.size = r.length + 1 + 1 := by rw [← ba_len, ht, ← hr]; simp
            rw [ht, ← hr] at hlast
            have : (47 :: (r ++ [47]))[bs.size - 1]? = some 47 := by
              rw [hsz2]; simp
            rw [this] at hlast
            exact (Option.some.inj hlast).symm
          have et : Lib.trimSuffix t [47] = t := by
            rw [Lib.trimSuffix, hs]; rfl
          rw [et, ← key t]
          have eb : bs.data.toList ++ [47] = 47 :: (t ++ [47]) := by rw [ht]; rfl
          have := model_loop2 es ds bs w he hd hb h1 h2 h3 g1 g2 hsz g4 g5 g6
          rw [eb] at this
          exact this

set_option maxHeartbeats 400000 in
/-- **The law answers true.** -/
theorem law_plain (es ds bs : ByteArray) (w : World) (m : Int) (he : es.size ≤ maxLen) (hd : ds.size ≤ maxLen) (hb : bs.size ≤ maxLen) (hm : w.cell? ⟨0, 0, none⟩ = some (.int .i64 m)) :
    Calls Tryd.prog 5 #[.string es, .string ds, .string bs] w fun e w' => e = .returned (.bool true) ∧ Below w.heap.size w w' := by
  by_cases hz : es.size + ds.size + bs.size ≤ 1048576
  · obtain ⟨b, c1, c2⟩ := both es ds bs m (by omega) (by omega) (by omega)
    have H1 : Hid (∀ w : World, w.cell? ⟨0, 0, none⟩ = some (.int .i64 m) → Calls Tryd.prog 12 #[.string es, .string ds, .string bs] w fun e w' => e = .returned (.bool b) ∧ Below w.heap.size w w') := c1
    have H2 : Hid (∀ w : World, Calls Tryd.prog 13 #[.string es, .string ds, .string bs] w fun e w' => e = .returned (.bool b) ∧ ∃ n, w' = w.drewN n) := c2
    clear c1 c2
    have hdz : decide (es.size + ds.size + bs.size ≤ 1048576) = true := decide_eq_true hz
    have hbb : (b == b) = true := by simp
    go_enter Tryd.func5, Tryd.ntmps5
    go_wp2_with (first
      | (go_at_call 11; refine (bytes_any _ _ _ _ he hd hb).mono ?_; rintro e w' ⟨rfl, rfl⟩)
      | (go_at_call 12; refine (H1.out _ hm).mono ?_; rintro e w' ⟨rfl, hbl⟩)
      | (go_at_call 13; refine (H2.out _).mono ?_; rintro e w' ⟨rfl, nq, rfl⟩))
    go_ret
    exact ⟨rfl, below_drewN hbl _⟩
  · have hdz : decide (es.size + ds.size + bs.size ≤ 1048576) = false := decide_eq_false hz
    go_enter Tryd.func5, Tryd.ntmps5
    go_wp2_with (go_at_call 11; refine (bytes_any _ _ _ _ he hd hb).mono ?_; rintro e w' ⟨rfl, rfl⟩)
    go_ret
    exact ⟨rfl, Below.refl _ _⟩
end Go.Proofs.Qxb6604302aDoor
