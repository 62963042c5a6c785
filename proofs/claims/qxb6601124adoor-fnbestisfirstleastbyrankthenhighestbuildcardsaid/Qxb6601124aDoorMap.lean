/-
  The map from a tag to its first place, as 'Best' lays it.
-/
import Derived.Test.Qxb6601124aDoorBestM
import Derived.MapKept
namespace Go.Proofs.Qxb6601124aDoor
open Go.RowKit Go.Shelf
set_option linter.unusedVariables false

/-- A tag as a value. -/
def tv (t : T) : Value := .agg #[.string t.p, .string t.a, .string t.l]
theorem tv_inj {x y : T} (h : tv x = tv y) : x = y := by
  cases x; cases y
  simpa [tv] using h

theorem equal_tag (x y : T) (w : World) : (Op.equal 63 (tv x) (tv y)).run Tryd.prog w = .ok (x == y) w := by
  have h := eq_tag x y w
  rw [run_eql_struct] at h
  show (Op.equalIn 10000 63 (tv x) (tv y)).run Tryd.prog w = _
  unfold tv
  cases hr : (Op.equalIn 10000 63 (.agg #[.string x.p, .string x.a, .string x.l]) (.agg #[.string y.p, .string y.a, .string y.l])).run Tryd.prog w <;> rw [hr] at h <;> simp [Result.andThen] at h ⊢
  exact h

theorem check_str (em : Bool) (n : Nat) (s : ByteArray) (w : World) : (Instr.checkKey em (n + 1) 9 (.string s)).run Tryd.prog w = .ok () w := by
  unfold Instr.checkKey
  simp [run_underlying Tryd.underlying9, Result.andThen]

theorem check_tag (em : Bool) (t : T) (w : World) : (Instr.checkKey em 10000 63 (tv t)).run Tryd.prog w = .ok () w := by
  rw [show (10000 : Nat) = 9999 + 1 from rfl]
  unfold Instr.checkKey tv
  have u9 := Tryd.underlying9
  have a9 := Tryd.isAgg9
  have z9 := Tryd.sizeOf9
  have c9 := fun s w => check_str em 9998 s w
  simp only [Sem.run_bind, run_underlying Tryd.underlying63, Result.andThen]
  go_simp

theorem findAsking_tag (t : T) (w : World) : ∀ (es : List MapEntry) (i : Nat), (∀ e ∈ es, ∃ s, e.key = tv s) →
    ((Instr.findAsking 63 (tv t) es i).run Tryd.prog w = .ok none w ∧ ∀ e ∈ es, e.key ≠ tv t) ∨ ∃ j e, (Instr.findAsking 63 (tv t) es i).run Tryd.prog w = .ok (some (j, e.val)) w ∧ e ∈ es ∧ e.key = tv t
  | [], i, _ => Or.inl ⟨by simp [Instr.findAsking], by simp⟩
  | e :: es, i, h => by
    obtain ⟨s, hs⟩ := h e (by simp)
    have hq := equal_tag t s w
    unfold Instr.findAsking
    simp only [Sem.run_bind, hs, hq, Result.andThen]
    by_cases hst : t = s
    · right
      refine ⟨i, e, ?_, by simp, by rw [hs, hst]⟩
      simp [hst]
    · have hb : (t == s) = false := by rw [beq_eq_false_iff_ne]; exact hst
      rw [hb]
      rcases findAsking_tag t w es (i + 1) (fun e he => h e (by simp [he])) with ⟨h1, h2⟩ | ⟨j, e', h1, h2, h3⟩
      · left
        refine ⟨by simpa using h1, fun e' he' => ?_⟩
        rcases List.mem_cons.1 he' with rfl | he'
        · rw [hs]; exact fun e => hst (tv_inj e).symm
        · exact h2 e' he'
      · right
        exact ⟨j, e', by simpa using h1, by simp [h2], h3⟩

theorem find_tag (t : T) (w : World) (es : List MapEntry) (h : ∀ e ∈ es, ∃ s, e.key = tv s) :
    ((Instr.findKey 63 (tv t) es).run Tryd.prog w = .ok none w ∧ ∀ e ∈ es, e.key ≠ tv t) ∨ ∃ j e, (Instr.findKey 63 (tv t) es).run Tryd.prog w = .ok (some (j, e.val)) w ∧ e ∈ es ∧ e.key = tv t := by
  unfold Instr.findKey
  simp only [Sem.run_bind, run_underlying Tryd.underlying63, Result.andThen]
  cases es with
  | nil => left; simp [Instr.findNow]
  | cons e es =>
    have hn : ∀ fs, Instr.findNow (.struct fs) (tv t) (e :: es) 0 = none := fun _ => rfl
    simp only [hn]
    exact findAsking_tag t w (e :: es) 0 h

/-- The map behind k of the tags: each has its first place. -/
structure MapT (w : World) (b : Nat) (ts : List T) (k : Nat) : Prop where
  ex : ∃ es clock, w.heap[b]? = some (.map es clock) ∧ (∀ e ∈ es.toList, ∃ t j, j < k ∧ ts[j]? = some t ∧ e.key = tv t ∧ e.val = .int .i64 (ts.idxOf t : Int)) ∧ (∀ j t, j < k → ts[j]? = some t → ∃ e ∈ es.toList, e.key = tv t)

theorem MapT.lt {w : World} {b k : Nat} {ts : List T} (h : MapT w b ts k) : b < w.heap.size := by
  obtain ⟨es, clock, hb, _⟩ := h.ex
  exact (Array.getElem?_eq_some_iff.1 hb).1
theorem MapT.of_block {w w' : World} {b k : Nat} {ts : List T} (h : MapT w b ts k) (e : w'.heap[b]? = w.heap[b]?) : MapT w' b ts k := by
  obtain ⟨es, clock, hb, h1, h2⟩ := h.ex
  exact ⟨es, clock, e.trans hb, h1, h2⟩
theorem MapT.made (w : World) (ts : List T) : MapT (w.alloc (.map #[] 0)) w.heap.size ts 0 :=
  ⟨#[], 0, (MapKept.heap_alloc w _).1, by simp, fun j t h => by omega⟩
theorem MapT.whole {w : World} {b k : Nat} {ts : List T} (h : MapT w b ts k) (hk : ts.length ≤ k) : MapT w b ts ts.length := by
  obtain ⟨es, clock, hb, h1, h2⟩ := h.ex
  refine ⟨es, clock, hb, fun e he => ?_, fun j t hj => h2 j t (by omega)⟩
  obtain ⟨t, j, _, h3⟩ := h1 e he
  exact ⟨t, j, (List.getElem?_eq_some_iff.1 h3.1).1, h3⟩

theorem MapT.look {w : World} {b k : Nat} {ts : List T} (h : MapT w b ts k) (t : T) :
    ((Instr.lookup 64 (.map (some b)) (tv t) true).run Tryd.prog w = .ok (.tuple #[.int .i64 0, .bool false]) w ∧ ∀ j, j < k → ts[j]? ≠ some t) ∨
    ((Instr.lookup 64 (.map (some b)) (tv t) true).run Tryd.prog w = .ok (.tuple #[.int .i64 (ts.idxOf t : Int), .bool true]) w ∧ ∃ j, j < k ∧ ts[j]? = some t) := by
  obtain ⟨es, clock, hb, h1, h2⟩ := h.ex
  have hk : ∀ e ∈ es.toList, ∃ s, e.key = tv s := fun e he => by
    obtain ⟨s, j, _, _, h3, _⟩ := h1 e he
    exact ⟨s, h3⟩
  rcases find_tag t w es.toList hk with ⟨r1, r2⟩ | ⟨j, e, r1, r2, r3⟩
  · left
    refine ⟨?_, fun j hj ht => ?_⟩
    · simp [Instr.lookup, run_underlying Tryd.underlying64, MapKept.run_getObj_map hb, check_tag, r1, Result.andThen]
    · obtain ⟨e, he, he2⟩ := h2 j t hj ht
      exact r2 e he he2
  · right
    obtain ⟨s, j', h3, h4, h5, h6⟩ := h1 e r2
    have hst : s = t := tv_inj (h5.symm.trans r3)
    subst hst
    refine ⟨?_, j', h3, h4⟩
    simp [Instr.lookup, run_underlying Tryd.underlying64, MapKept.run_getObj_map hb, check_tag, r1, h6, Result.andThen]

theorem idxOf_first {ts : List T} {k : Nat} {t : T} (ht : ts[k]? = some t) (h : ∀ j, j < k → ts[j]? ≠ some t) : ts.idxOf t = k :=
  (findIdx_next (· == t) ts k (fun i x hi hx => by
    rw [beq_eq_false_iff_ne]
    intro e
    rw [e] at hx
    exact h i hi hx)).1 t ht (by simp)

theorem MapT.store {w : World} {b k : Nat} {ts : List T} (h : MapT w b ts k) {t : T} (ht : ts[k]? = some t) (hne : ∀ j, j < k → ts[j]? ≠ some t) :
    ∃ w', (Instr.mapUpdate 64 (.map (some b)) (tv t) (.int .i64 (k : Int))).run Tryd.prog w = .ok () w' ∧ MapT w' b ts (k + 1) ∧ Below b w w' := by
  have hlt := h.lt
  obtain ⟨es, clock, hb, h1, h2⟩ := h.ex
  have hk : ∀ e ∈ es.toList, ∃ s, e.key = tv s := fun e he => by
    obtain ⟨s, j, _, _, h3, _⟩ := h1 e he
    exact ⟨s, h3⟩
  have hi := idxOf_first ht hne
  rcases find_tag t w es.toList hk with ⟨r1, r2⟩ | ⟨j, e, r1, r2, r3⟩
  · refine ⟨{ w with heap := w.heap.setIfInBounds b (.map (es.push ⟨tv t, .int .i64 (k : Int), clock⟩) (clock + 1)) }, ?_, ?_, ?_⟩
    · simp [Instr.mapUpdate, run_underlying Tryd.underlying64, MapKept.run_getObj_map hb, check_tag, r1, MapKept.run_setObj_map _ hb, Result.andThen]
    · refine ⟨es.push ⟨tv t, .int .i64 (k : Int), clock⟩, clock + 1, ?_, ?_, ?_⟩
      · simp [hlt]
      · intro e he
        simp only [Array.toList_push, List.mem_append, List.mem_singleton] at he
        rcases he with he | rfl
        · obtain ⟨s, j, h3, h4⟩ := h1 e he
          exact ⟨s, j, by omega, h4⟩
        · exact ⟨t, k, by omega, ht, rfl, by rw [hi]⟩
      · intro j s hj hs
        by_cases e : j = k
        · rw [e, ht] at hs
          obtain rfl := Option.some.inj hs
          exact ⟨⟨tv t, .int .i64 (k : Int), clock⟩, by simp, rfl⟩
        · obtain ⟨e, he, he2⟩ := h2 j s (by omega) hs
          exact ⟨e, by simp [he], he2⟩
    · exact ⟨rfl, rfl, rfl, by simp, fun i hi => by simp [show b ≠ i by omega]⟩
  · obtain ⟨s, j', h3, h4, h5, h6⟩ := h1 e r2
    have hst : s = t := tv_inj (h5.symm.trans r3)
    subst hst
    exact absurd h4 (hne j' h3)
theorem MapT.next {w : World} {b k : Nat} {ts : List T} (h : MapT w b ts k) {t : T} (ht : ts[k]? = some t) (hex : ∃ j, j < k ∧ ts[j]? = some t) : MapT w b ts (k + 1) := by
  obtain ⟨es, clock, hb, h1, h2⟩ := h.ex
  refine ⟨es, clock, hb, fun e he => ?_, fun j s hj hs => ?_⟩
  · obtain ⟨s, j, h3, h4⟩ := h1 e he
    exact ⟨s, j, by omega, h4⟩
  · by_cases e : j = k
    · rw [e, ht] at hs
      obtain rfl := Option.some.inj hs
      obtain ⟨j', h3, h4⟩ := hex
      exact h2 j' _ h3 h4
    · exact h2 j s (by omega) hs
end Go.Proofs.Qxb6601124aDoor
