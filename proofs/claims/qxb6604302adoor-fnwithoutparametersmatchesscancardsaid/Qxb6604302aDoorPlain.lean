/-
  The plain laws of this seat: no Go in sight. Segments between slashes; the three patterns; the scanner.
-/
import Derived.Lib.IndexMore
namespace Go.Proofs.Qxb6604302aDoor.Pl
set_option linter.unusedSimpArgs false
open Go


/-- The segments between slashes. -/
def segs : List UInt8 → List (List UInt8)
  | [] => [[]]
  | c :: l => if c = 47 then [] :: segs l else match segs l with
    | [] => [[c]]
    | h :: t => (c :: h) :: t

theorem segs_ne (l : List UInt8) : segs l ≠ [] := by
  cases l with
  | nil => simp [segs]
  | cons c l =>
    unfold segs
    split
    · simp
    · split <;> simp

theorem segs_cons_ne (c : UInt8) (l : List UInt8) (hc : c ≠ 47) : segs (c :: l) = match segs l with
    | [] => [[c]]
    | h :: t => (c :: h) :: t := by
  rw [segs, if_neg hc]

theorem segs_plain : ∀ (h : List UInt8), 47 ∉ h → segs h = [h]
  | [], _ => rfl
  | c :: h, hn => by
    have hc : c ≠ 47 := fun e => hn (by simp [e])
    have ih := segs_plain h (fun e => hn (by simp [e]))
    unfold segs
    rw [if_neg hc, ih]

theorem segs_cut : ∀ (h r : List UInt8), 47 ∉ h → segs (h ++ 47 :: r) = h :: segs r
  | [], r, _ => by simp [segs]
  | c :: h, r, hn => by
    have hc : c ≠ 47 := fun e => hn (by simp [e])
    have ih := segs_cut h r (fun e => hn (by simp [e]))
    rw [List.cons_append, segs_cons_ne c _ hc, ih]

/-- Either no slash, or the first slash parts the list. -/
theorem cut_at : ∀ (r : List UInt8), 47 ∉ r ∨ ∃ h t, r = h ++ 47 :: t ∧ 47 ∉ h
  | [] => .inl (by simp)
  | c :: r => by
    by_cases hc : c = 47
    · exact .inr ⟨[], r, by simp [hc], by simp⟩
    · rcases cut_at r with h | ⟨h, t, e, hn⟩
      · exact .inl (by simp only [List.mem_cons, not_or]; exact ⟨fun e => hc e.symm, h⟩)
      · exact .inr ⟨c :: h, t, by simp [e], by simp only [List.mem_cons, not_or]; exact ⟨fun e => hc e.symm, hn⟩⟩

theorem pre_eq : ∀ (p h X : List UInt8), 47 ∉ p → 47 ∉ h → ((p ++ [47]) <+: (h ++ 47 :: X) ↔ p = h)
  | [], [], X, _, _ => by simp
  | [], c :: h, X, _, hh => by
    have hc : c ≠ 47 := fun e => hh (by simp [e])
    simp only [List.nil_append, List.cons_append, List.cons_prefix_cons]
    exact ⟨fun ⟨e, _⟩ => absurd e.symm hc, fun e => by simp at e⟩
  | c :: p, [], X, hp, _ => by
    have hc : c ≠ 47 := fun e => hp (by simp [e])
    simp only [List.nil_append, List.cons_append, List.cons_prefix_cons]
    exact ⟨fun ⟨e, _⟩ => absurd e hc, fun e => by simp at e⟩
  | c :: p, d :: h, X, hp, hh => by
    have ih := pre_eq p h X (fun e => hp (by simp [e])) (fun e => hh (by simp [e]))
    simp only [List.cons_append, List.cons_prefix_cons, ih, List.cons.injEq]

/-- A pattern that opens with a slash is not met before the first slash. -/
theorem inf_skip : ∀ (h X q : List UInt8), 47 ∉ h → ((47 :: q) <:+: (h ++ X) ↔ (47 :: q) <:+: X)
  | [], X, q, _ => by simp
  | c :: h, X, q, hn => by
    have hc : c ≠ 47 := fun e => hn (by simp [e])
    have ih := inf_skip h X q (fun e => hn (by simp [e]))
    rw [List.cons_append, List.infix_cons_iff, ih, List.cons_prefix_cons]
    exact ⟨fun h => h.elim (fun ⟨e, _⟩ => absurd e.symm hc) id, .inr⟩

theorem inf_step (p h X : List UInt8) (hp : 47 ∉ p) (hh : 47 ∉ h) :
    ((47 :: (p ++ [47])) <:+: (47 :: (h ++ 47 :: X)) ↔ p = h ∨ (47 :: (p ++ [47])) <:+: (47 :: X)) := by
  rw [List.infix_cons_iff, List.cons_prefix_cons, inf_skip h (47 :: X) _ hh]
  simp only [true_and, pre_eq p h X hp hh]

theorem inf_segs (p : List UInt8) (hp : 47 ∉ p) : ∀ (n : Nat) (r : List UInt8), r.length ≤ n →
    ((47 :: (p ++ [47])) <:+: (47 :: (r ++ [47])) ↔ p ∈ segs r) := by
  intro n
  induction n with
  | zero =>
    intro r hr
    have : r = [] := List.eq_nil_of_length_eq_zero (by omega)
    subst this
    have := inf_step p [] [] hp (by simp)
    simp only [List.nil_append] at this ⊢
    rw [this]
    simp only [segs, List.mem_singleton]
    constructor
    · rintro (h | h)
      · exact h
      · have := h.length_le; simp at this
    · exact .inl
  | succ n ih =>
    intro r hr
    rcases cut_at r with h | ⟨h, t, e, hn⟩
    · rw [segs_plain r h, inf_step p r [] hp h]
      simp only [List.mem_singleton]
      constructor
      · rintro (h | h)
        · exact h
        · have := h.length_le; simp at this
      · exact .inl
    · subst e
      have ih' := ih t (by simp at hr; omega)
      rw [segs_cut h t hn, List.append_assoc, List.cons_append, inf_step p h _ hp hn, ih']
      simp

theorem inf_iff (p r : List UInt8) (hp : 47 ∉ p) : ((47 :: (p ++ [47])) <:+: (47 :: (r ++ [47])) ↔ p ∈ segs r) :=
  inf_segs p hp r.length r (Nat.le_refl _)

/-- What the loop asks of each segment. -/
def good (x : List UInt8) : Bool := !(x == []) && !(x == [46]) && !(x == [46, 46])

theorem all_good (r : List UInt8) :
    (segs r).all good = true ↔ (¬ [47, 47] <:+: (47 :: (r ++ [47])) ∧ ¬ [47, 46, 47] <:+: (47 :: (r ++ [47])) ∧ ¬ [47, 46, 46, 47] <:+: (47 :: (r ++ [47]))) := by
  have h0 := inf_iff [] r (by simp)
  have h1 := inf_iff [46] r (by decide)
  have h2 := inf_iff [46, 46] r (by decide)
  simp only [List.nil_append, List.cons_append] at h0 h1 h2
  rw [h0, h1, h2, List.all_eq_true]
  constructor
  · intro h
    refine ⟨fun m => ?_, fun m => ?_, fun m => ?_⟩
    · simpa [good] using h _ m
    · simpa [good] using h _ m
    · simpa [good] using h _ m
  · rintro ⟨a, b, c⟩ x hx
    have e0 : x ≠ [] := fun e => a (e ▸ hx)
    have e1 : x ≠ [46] := fun e => b (e ▸ hx)
    have e2 : x ≠ [46, 46] := fun e => c (e ▸ hx)
    simp [good, e0, e1, e2]

/-- What the scanner keeps. -/
def scan : Bool → List UInt8 → List UInt8
  | _, [] => []
  | sk, c :: l => if c = 47 then 47 :: scan false l else if c = 59 then scan true l else if sk then scan sk l else c :: scan sk l

/-- The bytes before the first semicolon. -/
def before : List UInt8 → List UInt8
  | [] => []
  | c :: l => if c = 59 then [] else c :: before l

/-- The state of the scanner behind a list. -/
def skip : Bool → List UInt8 → Bool
  | b, [] => b
  | b, c :: l => if c = 47 then skip false l else if c = 59 then skip true l else skip b l

theorem scan_append : ∀ (b : Bool) (l r : List UInt8), scan b (l ++ r) = scan b l ++ scan (skip b l) r
  | _, [], _ => rfl
  | b, c :: l, r => by
    have i1 := scan_append false l r
    have i2 := scan_append true l r
    have i3 := scan_append b l r
    by_cases h1 : c = 47
    · simp [scan, skip, h1, i1]
    · by_cases h2 : c = 59
      · subst h2; simp [scan, skip, i2]
      · cases b <;> simp [scan, skip, h1, h2, i3]

theorem skip_append : ∀ (b : Bool) (l r : List UInt8), skip b (l ++ r) = skip (skip b l) r
  | _, [], _ => rfl
  | b, c :: l, r => by
    have i1 := skip_append false l r
    have i2 := skip_append true l r
    have i3 := skip_append b l r
    by_cases h1 : c = 47
    · simp [skip, h1, i1]
    · by_cases h2 : c = 59
      · subst h2; simp [skip, i2]
      · simp [skip, h1, h2, i3]

theorem scan_len : ∀ (b : Bool) (l : List UInt8), (scan b l).length ≤ l.length
  | _, [] => Nat.le_refl _
  | b, c :: l => by
    have i1 := scan_len false l
    have i2 := scan_len true l
    have i3 := scan_len b l
    by_cases h1 : c = 47
    · simp [scan, h1, i1]
    · by_cases h2 : c = 59
      · subst h2; simp [scan]; omega
      · cases b <;> simp [scan, h1, h2] <;> omega

theorem scan_no_semi : ∀ (b : Bool) (l : List UInt8), (scan b l).count 59 = 0
  | _, [] => rfl
  | b, c :: l => by
    have i1 := scan_no_semi false l
    have i2 := scan_no_semi true l
    have i3 := scan_no_semi b l
    by_cases h1 : c = 47
    · simp [scan, h1, List.count_cons, i1]
    · by_cases h2 : c = 59
      · subst h2; simp [scan, i2]
      · cases b <;> simp [scan, h1, h2, List.count_cons, i3]

theorem scan_slash : ∀ (b : Bool) (l : List UInt8), (scan b l).count 47 = l.count 47
  | _, [] => rfl
  | b, c :: l => by
    have i1 := scan_slash false l
    have i2 := scan_slash true l
    have i3 := scan_slash b l
    by_cases h1 : c = 47
    · simp [scan, h1, List.count_cons, i1]
    · by_cases h2 : c = 59
      · subst h2; simp [scan, i2, List.count_cons]
      · cases b <;> simp [scan, h1, h2, List.count_cons, i3]

theorem scan_id : ∀ (l : List UInt8), 59 ∉ l → scan false l = l
  | [], _ => rfl
  | c :: l, h => by
    have hc : c ≠ 59 := fun e => h (by simp [e])
    have ih := scan_id l (fun e => h (by simp [e]))
    by_cases h1 : c = 47
    · subst h1; simp [scan, ih]
    · simp [scan, h1, hc, ih]

/-- The scanner, between slashes. -/
theorem scan_segs : ∀ (l : List UInt8),
    (scan false l = [47].intercalate ((segs l).map before)) ∧
    (scan true l = [47].intercalate ([] :: ((segs l).tail.map before)))
  | [] => by simp [scan, segs, before, List.intercalate]
  | c :: l => by
    obtain ⟨i1, i2⟩ := scan_segs l
    have hne := segs_ne l
    by_cases h1 : c = 47
    · subst h1
      have e1 : segs (47 :: l) = [] :: segs l := by simp [segs]
      rw [e1]
      match hs : segs l, hne with
      | h :: t, _ =>
        rw [hs] at i1
        constructor
        · simp [scan, i1, before, List.intercalate, List.intersperse]
        · simp [scan, i1, before, List.intercalate, List.intersperse]
    · match hs : segs l, hne with
      | h :: t, _ =>
        have e1 : segs (c :: l) = (c :: h) :: t := by rw [segs_cons_ne c l h1, hs]
        rw [e1]
        rw [hs] at i1 i2
        by_cases h2 : c = 59
        · subst h2
          simp only [scan, List.tail_cons] at i2 ⊢
          simp [i2, before]
        · simp only [List.tail_cons, List.map_cons] at i1 i2 ⊢
          constructor
          · have : before (c :: h) = c :: before h := by simp [before, h2]
            rw [this]
            simp [scan, h1, h2, i1]
          · simp [scan, h1, h2, i2]

/-! ### 'contains', in the words of infixes -/
theorem occ_prefix (s sub : List UInt8) (i : Nat) : Lib.occAt s sub i = true ↔ sub <+: s.drop i := by
  unfold Lib.occAt; exact List.isPrefixOf_iff_prefix

theorem contains_iff (s sub : List UInt8) : Lib.contains s sub = true ↔ sub <:+: s := by
  unfold Lib.contains
  rw [decide_eq_true_eq]
  constructor
  · intro h
    rcases Lib.index_spec s sub with ⟨h1, _⟩ | ⟨i, _, _, h3, _⟩
    · omega
    · obtain ⟨t, ht⟩ := (occ_prefix s sub i).1 h3
      refine ⟨s.take i, t, ?_⟩
      rw [List.append_assoc, ht, List.take_append_drop]
  · rintro ⟨a, b, e⟩
    rcases Lib.index_spec s sub with ⟨_, h2⟩ | ⟨i, h1, _⟩
    · have := h2 a.length (by rw [← e]; simp)
      have h' : Lib.occAt s sub a.length = true := (occ_prefix s sub _).2 ⟨b, by rw [← e]; simp⟩
      rw [h'] at this; cases this
    · omega

theorem contains_of_occ {s sub : List UInt8} {i : Nat} (h : Lib.occAt s sub i = true) : Lib.contains s sub = true := by
  obtain ⟨t, ht⟩ := (occ_prefix s sub i).1 h
  exact (contains_iff s sub).2 ⟨s.take i, t, by rw [List.append_assoc, ht, List.take_append_drop]⟩

theorem contains_none {s sub : List UInt8} (hs : sub ≠ []) {k : Nat} (h : ∀ j, j < k → Lib.occAt s sub j = false) (hk : s.length < k + sub.length) : Lib.contains s sub = false := by
  rw [Bool.eq_false_iff]
  intro hc
  unfold Lib.contains at hc
  rw [decide_eq_true_eq, Lib.index_past hs h hk] at hc
  omega

theorem occ_of_all {s sub : List UInt8} {k : Nat} (hr : k + sub.length ≤ s.length) (h : ∀ j, j < sub.length → s[k + j]? = sub[j]?) : Lib.occAt s sub k = true := by
  rw [Lib.occAt_iff_take s sub k hr, beq_iff_eq]
  apply List.ext_getElem?
  intro j
  by_cases hj : j < sub.length
  · rw [List.getElem?_take_of_lt hj, List.getElem?_drop, h j hj]
  · rw [List.getElem?_eq_none (by simp; omega), List.getElem?_eq_none (by omega)]

theorem occ_not {s sub : List UInt8} {k q : Nat} (hq : q < sub.length) (h : s[k + q]? ≠ sub[q]?) : Lib.occAt s sub k = false := by
  rw [Bool.eq_false_iff]
  intro hc
  obtain ⟨t, ht⟩ := (occ_prefix s sub k).1 hc
  apply h
  rw [← List.getElem?_drop, ← ht, List.getElem?_append_left hq]

/-- The first slash, as the library's search tells it. -/
theorem idx_cases (l : List UInt8) : (Lib.indexByte l 47 = -1 ∧ segs l = [l]) ∨
    ∃ i : Nat, Lib.indexByte l 47 = i ∧ i < l.length ∧ segs l = l.take i :: segs (l.drop (i + 1)) := by
  induction l with
  | nil => exact .inl ⟨rfl, rfl⟩
  | cons c l ih =>
    by_cases hc : c = 47
    · subst hc
      exact .inr ⟨0, by simp [Lib.indexByte], by simp, by simp [segs]⟩
    · have hb : (c == 47) = false := by simpa using hc
      rcases ih with ⟨h1, h2⟩ | ⟨i, h1, h2, h3⟩
      · exact .inl ⟨by simp [Lib.indexByte, hb, h1], by rw [segs_cons_ne c l hc, h2]⟩
      · refine .inr ⟨i + 1, ?_, by simpa using h2, by rw [segs_cons_ne c l hc, h3]; simp⟩
        have : ((i : Int) == -1) = false := by rw [beq_eq_false_iff_ne]; omega
        simp [Lib.indexByte, hb, h1, this]

end Go.Proofs.Qxb6604302aDoor.Pl
