/-
  The walks of 'Join', 'Dir' and the small helpers.
-/
import Derived.Test.Qxb6003379aDoorShelf
import Derived.Test.Qxb6003379aDoorPlain
import Derived.WalkKit
import Derived.WalkSmall
import Derived.Outline
namespace Go.Proofs.Qxb6003379aDoor
open Go.RowKit
set_option linter.unusedVariables false

theorem hid_mk {p : Prop} (h : p) : Hid p := h
theorem ba_len (s : ByteArray) : s.data.toList.length = s.size := by rw [Array.length_toList]; rfl
theorem ba_get (s : ByteArray) (k : Nat) (h : k < s.size) : s.data.toList[k]? = some s[k] := by
  rw [List.getElem?_eq_getElem (by rw [ba_len]; exact h)]; rfl
theorem ba_ext {x y : ByteArray} (h : x.data.toList = y.data.toList) : x = y := by
  rw [← Lib.mk_data x, ← Lib.mk_data y, h]
theorem ba_mk (x : ByteArray) (l : List UInt8) (h : x.data.toList = l) : x = ⟨l.toArray⟩ := ba_ext h
theorem ret_str {x y : ByteArray} (h : x = y) : Ending.returned (.string x) = .returned (.string y) := by rw [h]

def joinB (d n : ByteArray) : ByteArray := ⟨(Pl.joinF d.data.toList n.data.toList).toArray⟩
def dirB (p : ByteArray) : ByteArray := ⟨(Pl.dirF p.data.toList).toArray⟩
def stripB (p : ByteArray) : ByteArray := ⟨(Lib.trimRightB p.data.toList 47).toArray⟩

theorem joinB_first {d n : ByteArray} (h : d.data.toList = [] ∨ d.data.toList = [46]) : n = joinB d n := by
  refine ba_mk _ _ ?_; unfold Pl.joinF; rw [if_pos h]
theorem joinB_slash {d n : ByteArray} (h : ¬ (d.data.toList = [] ∨ d.data.toList = [46])) (h2 : Lib.hasSuffix d.data.toList [47] = true) : d ++ n = joinB d n := by
  refine ba_mk _ _ ?_; unfold Pl.joinF; rw [if_neg h, if_pos h2]; simp
theorem joinB_plain {d n : ByteArray} (h : ¬ (d.data.toList = [] ∨ d.data.toList = [46])) (h2 : Lib.hasSuffix d.data.toList [47] = false) : d ++ ⟨#[47]⟩ ++ n = joinB d n := by
  refine ba_mk _ _ ?_; unfold Pl.joinF; rw [if_neg h, if_neg (by rw [h2]; simp)]; simp

theorem tests {d : ByteArray} (h : ¬ (d.data.toList = [] ∨ d.data.toList = [46])) : d.toList.isEmpty = false ∧ (d.toList == [46]) = false := by
  rw [Lib.toList_data]
  simp only [not_or] at h
  exact ⟨by simpa using h.1, by rw [beq_eq_false_iff_ne]; exact h.2⟩

set_option maxHeartbeats 400000 in
theorem join_any (d n : ByteArray) (w : World) (hd : d.size ≤ 2097152) (hn : n.size ≤ 2097152) :
    Calls Tryd.prog 12 #[.string d, .string n] w fun e w' => e = .returned (.string (joinB d n)) ∧ w' = w := by
  by_cases h1 : d.data.toList = []
  · have HJ := hid_mk (joinB_first (n := n) (.inl h1))
    have t1 : d.toList.isEmpty = true := by rw [Lib.toList_data, h1]; rfl
    clear h1
    go_enter Tryd.func12, Tryd.ntmps12
    go_wp2
    go_ret
    exact ⟨ret_str HJ.out, rfl⟩
  · by_cases h2 : d.data.toList = [46]
    · have HJ := hid_mk (joinB_first (n := n) (.inr h2))
      have t1 : d.toList.isEmpty = false := by rw [Lib.toList_data, h2]; rfl
      have t2 : (d.toList == [46]) = true := by rw [Lib.toList_data, h2]; rfl
      clear h1 h2
      go_enter Tryd.func12, Tryd.ntmps12
      go_wp2
      go_ret
      exact ⟨ret_str HJ.out, rfl⟩
    · have hne : ¬ (d.data.toList = [] ∨ d.data.toList = [46]) := by simp [h1, h2]
      obtain ⟨t1, t2⟩ := tests hne
      cases h3 : Lib.hasSuffix d.data.toList [47] with
      | true =>
        have HJ := hid_mk (joinB_slash (n := n) hne h3)
        clear h1 h2 hne
        go_enter Tryd.func12, Tryd.ntmps12
        go_wp2_with (go_at_call 24; refine (Tryd.strings_HasSuffix _ _ _ (by omega)).mono ?_; rintro e w1 ⟨rfl, hw⟩; obtain rfl := hw.symm)
        go_ret
        exact ⟨ret_str HJ.out, rfl⟩
      | false =>
        have HJ := hid_mk (joinB_plain (n := n) hne h3)
        clear h1 h2 hne
        go_enter Tryd.func12, Tryd.ntmps12
        go_wp2_with (go_at_call 24; refine (Tryd.strings_HasSuffix _ _ _ (by omega)).mono ?_; rintro e w1 ⟨rfl, hw⟩; obtain rfl := hw.symm)
        go_ret
        exact ⟨ret_str HJ.out, rfl⟩

/-- The part up to the last slash. -/
def upB (p : ByteArray) : ByteArray := ⟨(Lib.Pa.split p.data.toList).1.toArray⟩
theorem upB_size (p : ByteArray) : (upB p).size ≤ p.size := by
  rw [← ba_len, ← ba_len]
  show (Lib.Pa.split p.data.toList).1.length ≤ _
  unfold Lib.Pa.split; simp; omega

theorem split_any (p : ByteArray) (w : World) (hp : p.size ≤ 4194304) :
    Calls Tryd.prog 22 #[.string p] w fun e w' => ∃ b, e = .returned (.tuple #[.string (upB p), .string b]) ∧ ∃ n, w' = w.drewN n := by
  refine (Tryd.filepath_Split p w (by omega)).mono ?_
  rintro e w1 ⟨rfl, n, rfl⟩
  exact ⟨⟨(Lib.Pa.split p.data.toList).2.toArray⟩, rfl, n, rfl⟩

theorem trim_any (s : ByteArray) (w : World) (hs : s.size ≤ 4194304) :
    Calls Tryd.prog 23 #[.string s, .string ⟨#[47]⟩] w fun e w' => e = .returned (.string (stripB s)) ∧ w' = w :=
  Tryd.strings_TrimRight_one s 47 (by decide) w (by omega)

theorem empty_yes {x : ByteArray} (h : x.data.toList = []) : x.toList.isEmpty = true := by rw [Lib.toList_data, h]; rfl
theorem empty_no {x : ByteArray} (h : x.data.toList ≠ []) : x.toList.isEmpty = false := by rw [Lib.toList_data]; simpa using h

set_option maxHeartbeats 400000 in
theorem dir_any (p : ByteArray) (w : World) (hp : p.size ≤ 4194304) :
    Calls Tryd.prog 11 #[.string p] w fun e w' => e = .returned (.string (dirB p)) ∧ ∃ n, w' = w.drewN n := by
  have hz := upB_size p
  by_cases h1 : Lib.trimRightB (Lib.Pa.split p.data.toList).1 47 = []
  · have t1 : (stripB (upB p)).toList.isEmpty = true := empty_yes h1
    by_cases h2 : (Lib.Pa.split p.data.toList).1 = []
    · have t2 : (upB p).toList.isEmpty = true := empty_yes h2
      have HJ := hid_mk (show (⟨#[46]⟩ : ByteArray) = dirB p from ba_mk _ _ (by unfold Pl.dirF Pl.dirOf; rw [if_neg (by simp [h1]), if_neg (by simp [h2])]))
      clear h1 h2
      go_enter Tryd.func11, Tryd.ntmps11
      go_wp2_with (first
        | (go_at_call 22; refine (split_any _ _ hp).mono ?_; rintro e w1 ⟨b, rfl, n, rfl⟩)
        | (go_at_call 23; refine (trim_any _ _ (by omega)).mono ?_; rintro e w1 ⟨rfl, hw⟩; subst hw))
      go_ret
      exact ⟨ret_str HJ.out, _, rfl⟩
    · have t2 : (upB p).toList.isEmpty = false := empty_no h2
      have HJ := hid_mk (show (⟨#[47]⟩ : ByteArray) = dirB p from ba_mk _ _ (by unfold Pl.dirF Pl.dirOf; rw [if_neg (by simp [h1]), if_pos h2]))
      clear h1 h2
      go_enter Tryd.func11, Tryd.ntmps11
      go_wp2_with (first
        | (go_at_call 22; refine (split_any _ _ hp).mono ?_; rintro e w1 ⟨b, rfl, n, rfl⟩)
        | (go_at_call 23; refine (trim_any _ _ (by omega)).mono ?_; rintro e w1 ⟨rfl, hw⟩; subst hw))
      go_ret
      exact ⟨ret_str HJ.out, _, rfl⟩
  · have t1 : (stripB (upB p)).toList.isEmpty = false := empty_no h1
    have HJ := hid_mk (show stripB (upB p) = dirB p from ba_mk _ _ (by unfold Pl.dirF Pl.dirOf; rw [if_pos h1]; rfl))
    clear h1
    go_enter Tryd.func11, Tryd.ntmps11
    go_wp2_with (first
      | (go_at_call 22; refine (split_any _ _ hp).mono ?_; rintro e w1 ⟨b, rfl, n, rfl⟩)
      | (go_at_call 23; refine (trim_any _ _ (by omega)).mono ?_; rintro e w1 ⟨rfl, hw⟩; subst hw))
    go_ret
    exact ⟨ret_str HJ.out, _, rfl⟩

set_option maxHeartbeats 400000 in
theorem slash_any (w : World) : Calls Tryd.prog 8 #[] w fun e w' => e = .returned (.bool true) ∧ w' = w := by
  have hj := join_any ⟨#[97]⟩ ⟨#[98]⟩ w (by decide) (by decide)
  have e : joinB ⟨#[97]⟩ ⟨#[98]⟩ = ⟨#[97, 47, 98]⟩ := by
    refine ba_ext ?_
    show Pl.joinF [97] [98] = [97, 47, 98]
    decide
  rw [e] at hj
  have HJ := hid_mk hj
  clear hj e
  go_enter Tryd.func8, Tryd.ntmps8
  go_wp2_with (go_at_call 12; refine HJ.out.mono ?_; rintro e w1 ⟨rfl, hw⟩; obtain rfl := hw.symm)
  go_ret
  exact ⟨rfl, rfl⟩

/-- Is there a slash? -/
def hasB (s : ByteArray) : Bool := s.data.toList.contains 47
theorem take_snoc (s : ByteArray) (k : Nat) (h : k < s.size) : s.data.toList.take (k + 1) = s.data.toList.take k ++ [s[k]] := by
  rw [List.take_succ_eq_append_getElem (by rw [ba_len]; exact h)]; rfl

set_option maxHeartbeats 400000 in
theorem has_any (s : ByteArray) (w : World) (hs : s.size ≤ 1048576) :
    Calls Tryd.prog 9 #[.string s] w fun e w' => e = .returned (.bool (hasB s)) ∧ w' = w := by
  go_enter Tryd.func9, Tryd.ntmps9
  go_wp2
  go_loop [3] (fun i => ∃ k : Nat, k ≤ s.size ∧ i = .int .i64 k ∧ 47 ∉ s.data.toList.take k) (fun i => s.size - (intOf i).toNat)
  case atStart => exact ⟨0, Nat.zero_le _, rfl, by simp⟩
  case round =>
    obtain ⟨k, hk, rfl, hno⟩ := hrel
    have HN := hid_mk hno
    clear hno
    by_cases hlt : k < s.size
    · by_cases hc : s[k] = 47
      · have b1 : ((s[k].toNat : Int) == 47) = true := by rw [hc]; rfl
        have HC : Hid (hasB s = true) := hid_mk (by
          have := ba_get s k hlt
          rw [hc] at this
          exact List.contains_iff_mem.2 (List.mem_of_getElem? this))
        clear hc
        go_wp2
        go_ret
        exact ⟨by rw [HC.out]; rfl, rfl⟩
      · have b1 : ((s[k].toNat : Int) == 47) = false := by rw [beq_eq_false_iff_ne]; intro e; exact hc (UInt8.toNat_inj.1 (by show s[k].toNat = 47; omega))
        have HC := hid_mk hc
        clear hc
        go_wp2
        go_round
        case rel =>
          refine ⟨k + 1, by omega, by go_num, ?_⟩
          rw [take_snoc s k hlt, List.mem_append, not_or]
          exact ⟨HN.out, fun e => HC.out (List.mem_singleton.1 e).symm⟩
        case measure => simp [intOf]; omega
    · have HC : Hid (hasB s = false) := hid_mk (by
        have := HN.out
        rw [List.take_of_length_le (by rw [ba_len]; omega)] at this
        rw [Bool.eq_false_iff]; intro e; exact this (List.contains_iff_mem.1 (show s.data.toList.contains 47 = true from e)))
      go_wp2
      go_ret
      exact ⟨by rw [HC.out]; rfl, rfl⟩

theorem last_snoc (x : ByteArray) (h : 0 < x.size) : x.data.toList = x.data.toList.take (x.size - 1) ++ [x[x.size - 1]] := by
  have h1 : x.data.toList.take (x.size - 1 + 1) = x.data.toList := List.take_of_length_le (by rw [ba_len]; omega)
  have h2 := List.take_succ_eq_append_getElem (l := x.data.toList) (i := x.size - 1) (by rw [ba_len]; omega)
  rw [h1] at h2
  exact h2

set_option maxHeartbeats 400000 in
theorem strip_any (s : ByteArray) (w : World) (hs : s.size ≤ 1048576) :
    Calls Tryd.prog 10 #[.string s] w fun e w' => e = .returned (.string (stripB s)) ∧ w' = w := by
  go_enter Tryd.func10, Tryd.ntmps10
  go_wp2
  go_loop [0] (fun v => ∃ x : ByteArray, v = .string x ∧ x.size ≤ s.size ∧ Lib.trimRightB x.data.toList 47 = Lib.trimRightB s.data.toList 47) (fun v => Lib.Pa.strSize v)
  case atStart => exact ⟨s, rfl, Nat.le_refl _, rfl⟩
  case round =>
    obtain ⟨x, rfl, hle, hx⟩ := hrel
    have HX := hid_mk hx
    clear hx
    by_cases hz : 0 < x.size
    · have hsn := last_snoc x hz
      have i0 : (1 : Int) ≤ (x.size : Int) := by omega
      have i1 : (0 : Int) < (x.size : Int) := by omega
      by_cases hc : x[x.size - 1] = 47
      · have b1 : ((x[x.size - 1].toNat : Int) == 47) = true := by rw [hc]; rfl
        have HE : Hid (Lib.trimRightB (x.data.toList.take (x.size - 1)) 47 = Lib.trimRightB x.data.toList 47) := hid_mk (by
          rw [hc] at hsn
          have h2 := Pl.trim_snoc (x.data.toList.take (x.size - 1))
          rw [← hsn] at h2; exact h2.symm)
        clear hc hsn
        go_wp2
        have hd : (x.extract 0 (x.size - 1)).data.toList = x.data.toList.take (x.size - 1) := Lib.Pa.extract_upto_list x _
        have hz2 : (x.extract 0 (x.size - 1)).size = x.size - 1 := by rw [← ba_len, hd, List.length_take, ba_len]; omega
        refine ⟨⟨x.extract 0 (x.size - 1), rfl, by omega, ?_⟩, ?_⟩
        · rw [hd, HE.out, HX.out]
        · show (x.extract 0 (x.size - 1)).size < x.size
          omega
      · have b1 : ((x[x.size - 1].toNat : Int) == 47) = false := by rw [beq_eq_false_iff_ne]; intro e; exact hc (UInt8.toNat_inj.1 (by show x[x.size - 1].toNat = 47; omega))
        have HE : Hid (x = stripB s) := hid_mk (ba_mk _ _ (by
          rw [← HX.out]
          refine (Pl.trim_keep _ ?_).symm
          rw [Bool.eq_false_iff]; intro h
          obtain ⟨r, hr⟩ := (Pl.suffix_iff _).1 h
          rw [hsn] at hr
          exact hc (by simpa using (List.append_inj' hr rfl).2)))
        clear hc hsn
        go_wp2
        go_ret
        exact ⟨ret_str HE.out, rfl⟩
    · have HE : Hid (x = stripB s) := hid_mk (ba_mk _ _ (by
        rw [← HX.out]
        have : x.data.toList = [] := List.eq_nil_of_length_eq_zero (by rw [ba_len]; omega)
        rw [this]; rfl))
      go_wp2
      go_ret
      exact ⟨ret_str HE.out, rfl⟩

set_option maxHeartbeats 400000 in
theorem last_any (s : ByteArray) (w : World) (hs : s.size ≤ 1048576) :
    Calls Tryd.prog 14 #[.string s] w fun e w' => e = .returned (.int .i64 (Lib.Pa.lastIndexByte s.data.toList 47)) ∧ w' = w := by
  go_enter Tryd.func14, Tryd.ntmps14
  go_wp2
  go_loop [3] (fun i => ∃ k : Nat, k ≤ s.size ∧ i = .int .i64 ((k : Int) - 1) ∧ Lib.Pa.lastIndexByte s.data.toList 47 = Lib.Pa.lastIdx s.data.toList 47 k) (fun i => (intOf i + 1).toNat)
  case atStart => exact ⟨s.size, Nat.le_refl _, rfl, by unfold Lib.Pa.lastIndexByte; rw [ba_len]⟩
  case round =>
    obtain ⟨k, hk, rfl, hx⟩ := hrel
    have HX := hid_mk hx
    clear hx
    cases k with
    | zero =>
      go_wp2
      go_ret
      exact ⟨by rw [HX.out]; rfl, rfl⟩
    | succ k =>
      have hlt : k < s.size := by omega
      have e1 : ((k + 1 : Nat) : Int) - 1 = (k : Int) := by omega
      rw [e1]
      have hg := ba_get s k hlt
      by_cases hc : s[k] = 47
      · have b1 : ((s[k].toNat : Int) == 47) = true := by rw [hc]; rfl
        have HE : Hid (Lib.Pa.lastIdx s.data.toList 47 (k + 1) = (k : Int)) := hid_mk (by unfold Lib.Pa.lastIdx; rw [hg, hc]; simp)
        clear hc hg
        go_wp2
        go_ret
        exact ⟨by rw [HX.out, HE.out]; rfl, rfl⟩
      · have b1 : ((s[k].toNat : Int) == 47) = false := by rw [beq_eq_false_iff_ne]; intro e; exact hc (UInt8.toNat_inj.1 (by show s[k].toNat = 47; omega))
        have HE : Hid (Lib.Pa.lastIdx s.data.toList 47 (k + 1) = Lib.Pa.lastIdx s.data.toList 47 k) := hid_mk (by
          rw [Lib.Pa.lastIdx, if_neg (by rw [hg]; intro e; exact hc (Option.some.inj e))])
        clear hc hg
        go_wp2
        go_round
        case rel => exact ⟨k, by omega, by go_num, by rw [HX.out, HE.out]⟩
        case measure => simp [intOf]
end Go.Proofs.Qxb6003379aDoor
