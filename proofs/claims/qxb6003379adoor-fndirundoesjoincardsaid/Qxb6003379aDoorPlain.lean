/-
  The plain laws of this seat: no Go in sight.
-/
import Derived.Lib.TrimByte
import Derived.Lib.PathFns
namespace Go.Proofs.Qxb6003379aDoor.Pl
open Go

/-- What 'Join' gives. -/
def joinF (d n : List UInt8) : List UInt8 := if d = [] ∨ d = [46] then n else if Lib.hasSuffix d [47] = true then d ++ n else d ++ [47] ++ n
/-- What 'Dir' gives, the part up to the last slash being dir. -/
def dirOf (dir : List UInt8) : List UInt8 := if Lib.trimRightB dir 47 ≠ [] then Lib.trimRightB dir 47 else if dir ≠ [] then [47] else [46]
def dirF (p : List UInt8) : List UInt8 := dirOf (Lib.Pa.split p).1

/-- Either no slash, or the last slash parts the list. -/
theorem cut_last : ∀ (r : List UInt8), 47 ∉ r ∨ ∃ a b, r = a ++ 47 :: b ∧ 47 ∉ b
  | [] => .inl (by simp)
  | c :: r => by
    rcases cut_last r with h | ⟨a, b, e, hn⟩
    · by_cases hc : c = 47
      · exact .inr ⟨[], r, by simp [hc], h⟩
      · exact .inl (by simp only [List.mem_cons, not_or]; exact ⟨fun e => hc e.symm, h⟩)
    · exact .inr ⟨c :: a, b, by simp [e], hn⟩

theorem suffix_iff (l : List UInt8) : Lib.hasSuffix l [47] = true ↔ ∃ r, l = r ++ [47] := by
  unfold Lib.hasSuffix
  rw [List.isSuffixOf_iff_suffix]
  exact ⟨fun ⟨r, h⟩ => ⟨r, h.symm⟩, fun ⟨r, h⟩ => ⟨r, h.symm⟩⟩

theorem trim_snoc (l : List UInt8) : Lib.trimRightB (l ++ [47]) 47 = Lib.trimRightB l 47 := by
  simp [Lib.trimRightB]

theorem trim_keep (l : List UInt8) (h : Lib.hasSuffix l [47] = false) : Lib.trimRightB l 47 = l := by
  unfold Lib.trimRightB
  rcases List.eq_nil_or_concat l with rfl | ⟨r, c, e⟩
  · rfl
  · subst e
    rw [List.concat_eq_append] at *
    have hc : c ≠ 47 := by
      intro e; subst e
      have := (suffix_iff (r ++ [47])).2 ⟨r, rfl⟩
      rw [this] at h; cases h
    simp [hc]

theorem trim_len (l : List UInt8) : (Lib.trimRightB l 47).length ≤ l.length := by
  unfold Lib.trimRightB
  have := (List.dropWhile_suffix (· == (47 : UInt8)) (l := l.reverse)).length_le
  simpa using this

theorem trim_less (l : List UInt8) (h : Lib.hasSuffix l [47] = true) : (Lib.trimRightB l 47).length < l.length := by
  obtain ⟨r, rfl⟩ := (suffix_iff l).1 h
  rw [trim_snoc]
  have := trim_len r
  simp; omega

theorem trim_end (l : List UInt8) : Lib.hasSuffix (Lib.trimRightB l 47) [47] = false := by
  rw [Bool.eq_false_iff]
  intro h
  obtain ⟨r, hr⟩ := (suffix_iff _).1 h
  unfold Lib.trimRightB at hr
  have h2 : l.reverse.dropWhile (· == 47) = 47 :: r.reverse := by
    have := congrArg List.reverse hr
    simpa using this
  have h3 := List.head?_dropWhile_not (· == (47 : UInt8)) l.reverse
  rw [h2] at h3
  simp at h3

theorem lastIdx_no (l : List UInt8) (h : 47 ∉ l) : Lib.Pa.lastIndexByte l 47 = -1 :=
  Lib.Pa.lastIdx_none l 47 _ (fun _ _ e => h (List.mem_of_getElem? e))
theorem lastIdx_yes (a b : List UInt8) (h : 47 ∉ b) : Lib.Pa.lastIndexByte (a ++ 47 :: b) 47 = ((a.length : Nat) : Int) := by
  refine Lib.Pa.lastIdx_eq_of _ _ a.length _ (by simp) (by simp) (fun j hj _ e => h ?_)
  rw [List.getElem?_append_right (by omega)] at e
  obtain ⟨q, hq⟩ : ∃ q, j - a.length = q + 1 := ⟨j - a.length - 1, by omega⟩
  rw [hq, List.getElem?_cons_succ] at e
  exact List.mem_of_getElem? e

theorem split_no (l : List UInt8) (h : 47 ∉ l) : (Lib.Pa.split l).1 = [] := by
  unfold Lib.Pa.split; rw [lastIdx_no l h]; rfl
theorem split_yes (a b : List UInt8) (h : 47 ∉ b) : (Lib.Pa.split (a ++ 47 :: b)).1 = a ++ [47] := by
  unfold Lib.Pa.split
  rw [lastIdx_yes a b h]
  have : (((a.length : Nat) : Int) + 1).toNat = a.length + 1 := by omega
  simp only [this]
  simp [List.take_append, List.take_of_length_le]

/-- What the law on Dir expects. -/
def wantF (d : List UInt8) : List UInt8 := if d = [] then [46] else if Lib.trimRightB d 47 = [] then [47] else Lib.trimRightB d 47

theorem dir_join (d n : List UInt8) (hn : 47 ∉ n) : dirF (joinF d n) = wantF d := by
  unfold dirF wantF joinF
  by_cases h1 : d = []
  · subst h1
    rw [if_pos (.inl rfl), split_no n hn]
    rfl
  · by_cases h2 : d = [46]
    · subst h2
      rw [if_pos (.inr rfl), split_no n hn]
      rfl
    · rw [if_neg (by simp [h1, h2]), if_neg h1]
      cases h3 : Lib.hasSuffix d [47] with
      | true =>
        obtain ⟨r, rfl⟩ := (suffix_iff d).1 h3
        rw [if_pos rfl, List.append_assoc, List.singleton_append, split_yes r n hn]
        unfold dirOf
        by_cases h4 : Lib.trimRightB (r ++ [47]) 47 = []
        · rw [if_neg (by simp [h4]), if_pos (by simp), if_pos h4]
        · rw [if_pos h4, if_neg h4]
      | false =>
        rw [if_neg (by simp), List.append_assoc, List.singleton_append, split_yes d n hn]
        unfold dirOf
        rw [trim_snoc, trim_keep d h3, if_pos h1, if_neg h1]

/-- The other law, p having no slash. -/
theorem join_dir_no (p : List UInt8) (h : 47 ∉ p) : joinF (dirF p) p = p := by
  have : dirF p = [46] := by unfold dirF; rw [split_no p h]; rfl
  rw [this]; rfl

theorem dir_yes (a b : List UInt8) (h : 47 ∉ b) : dirF (a ++ 47 :: b) = if Lib.trimRightB a 47 = [] then [47] else Lib.trimRightB a 47 := by
  unfold dirF
  rw [split_yes a b h]
  unfold dirOf
  rw [trim_snoc]
  by_cases h4 : Lib.trimRightB a 47 = []
  · rw [if_neg (by simp [h4]), if_pos (by simp), if_pos h4]
  · rw [if_pos h4, if_neg h4]

theorem join_dir_empty (b : List UInt8) (h : 47 ∉ b) : joinF (dirF (47 :: b)) b = 47 :: b := by
  have := dir_yes [] b h
  rw [List.nil_append] at this
  rw [this]; rfl

theorem join_dir_slash (a b : List UInt8) (h : 47 ∉ b) (ha : Lib.hasSuffix a [47] = true) : joinF (dirF (a ++ 47 :: b)) b ≠ a ++ 47 :: b := by
  intro e
  have hl := congrArg List.length e
  have ht := trim_less a ha
  rw [dir_yes a b h] at hl
  by_cases h4 : Lib.trimRightB a 47 = []
  · rw [if_pos h4] at hl
    have : joinF [47] b = 47 :: b := rfl
    rw [this] at hl
    simp at hl
    rw [h4] at ht
    simp [hl] at ht
  · rw [if_neg h4] at hl
    unfold joinF at hl
    split at hl
    · simp at hl; omega
    · split at hl
      · simp at hl; omega
      · simp at hl; omega

theorem join_dir_dot (b : List UInt8) (h : 47 ∉ b) : joinF (dirF (46 :: 47 :: b)) b ≠ 46 :: 47 :: b := by
  intro e
  have := dir_yes [46] b h
  have e2 : Lib.trimRightB [46] 47 = [46] := rfl
  rw [e2] at this
  have e3 : dirF (46 :: 47 :: b) = [46] := this
  rw [e3] at e
  have hl := congrArg List.length e
  have : joinF [46] b = b := rfl
  rw [this] at hl
  simp at hl
  omega

theorem join_dir_same (a b : List UInt8) (h : 47 ∉ b) (h0 : a ≠ []) (ha : Lib.hasSuffix a [47] = false) (hd : a ≠ [46]) : joinF (dirF (a ++ 47 :: b)) b = a ++ 47 :: b := by
  rw [dir_yes a b h, trim_keep a ha, if_neg h0]
  unfold joinF
  rw [if_neg (by simp [h0, hd]), if_neg (by simp [ha])]
  simp

end Go.Proofs.Qxb6003379aDoor.Pl
