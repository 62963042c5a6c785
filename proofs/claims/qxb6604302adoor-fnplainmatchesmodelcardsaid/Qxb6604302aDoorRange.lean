/-
  The loop 'for segment := range strings.SplitSeq(rest, slash)': the iterator writes its own captured cell between two rounds.
-/
import Derived.Test.Qxb6604302aDoorIter
namespace Go.Proofs.Qxb6604302aDoor
open Go.RowKit Go.Shelf
attribute [local go_sem] Oper.semAt_some

theorem putObj_back {W : World} {l : Nat} {o o' : Obj} (h : W.heap[l]? = some o) : (W.putObj l o').putObj l o = W := by
  have hlt : l < W.heap.size := (Array.getElem?_eq_some_iff.1 h).1
  have hh : (W.heap.setIfInBounds l o').setIfInBounds l o = W.heap := by
    apply Array.ext_getElem?
    intro k
    by_cases e : l = k
    · subst e
      rw [h]; simp [hlt]
    · rw [Array.getElem?_setIfInBounds_ne e, Array.getElem?_setIfInBounds_ne e]
  show ({ W with heap := (W.heap.setIfInBounds l o').setIfInBounds l o } : World) = W
  rw [hh]

/-- The state behind the loop that a round has left. -/
def Left (w0 : World) (W : World) : Prop := ∃ cur, St w0 cur W

theorem range_law {g : Operand} {ps : Array Tmp} {assign body : Code} {Q : Exit → Act → World → Prop} {a : Act} {w : World} {n : Nat} (hn : 3 ≤ n) (w0 : World) (s0 : ByteArray)
    (hg : a.eval g = .func (.func 38) #[] #[.pointer (some ⟨w0.heap.size + 1 + 1, 0, none⟩), .pointer (some ⟨w0.heap.size + 1, 0, none⟩), .pointer (some ⟨w0.heap.size + 1 + 1 + 1, 0, none⟩)])
    (hps : ps.size = 1) (hst : St w0 s0 w) (hsz : w0.heap.size + 1 + 1 + 1 < w.heap.size) (hs0 : s0.size ≤ 2097152) (a₁ : ByteArray → Act)
    (hassign : ∀ (l : Nat) (x : ByteArray) (W : World) (K : Act → World → Prop), K (a₁ x) W →
      assign.wpIn (Fence.wide.inRound l) (n - 1 - 1) Tryd.prog (Exit.then K (fun _ _ _ => False)) { tmps := (ps.zip #[.string x]).foldl (fun t (p, v) => t.setIfInBounds p v) a.tmps, defers := [] } W)
    (hbody1 : ∀ (l : Nat) (x : ByteArray) (W : World), Pl.good x.data.toList = true → body.wpIn (Fence.wide.inRound l) (n - 1 - 1) Tryd.prog (fun e _ W' => e = .normal ∧ W' = W) (a₁ x) W)
    (hbody2 : ∀ (l : Nat) (x : ByteArray) (W : World), Pl.good x.data.toList = false → W.cell? ⟨w0.heap.size, 0, none⟩ = some (.bool false) → W.frozen? ⟨w0.heap.size, 0, none⟩ = false →
      body.wpIn (Fence.wide.inRound l) (n - 1 - 1) Tryd.prog (fun e _ W' => e = .ret ∧ W' = W.setCell ⟨w0.heap.size, 0, none⟩ (.bool false)) (a₁ x) W)
    (hdone : ∀ (D : Nat) (cur : ByteArray) (W : World), w.heap.size ≤ D → (Pl.segs s0.data.toList).all Pl.good = true → St w0 cur W → W.heap[D]? = some (.deferred (some [])) → Q .normal { a with defers := { target := .collected D, args := #[] } :: a.defers } W)
    (hstop : ∀ (D : Nat) (cur : ByteArray) (W : World), w.heap.size ≤ D → (Pl.segs s0.data.toList).all Pl.good = false → St w0 cur W → W.heap[D]? = some (.deferred (some [])) → Code.ret.wpIn Fence.wide n Tryd.prog Q { a with defers := { target := .collected D, args := #[] } :: a.defers } W) :
    (Code.rangeFunc g ps assign body).wpIn Fence.wide n Tryd.prog Q a w := by
  refine wpIn_rangeFunc ?_
  intro fn hfn
  obtain ⟨rec, hrec⟩ : ∃ rec : LoopState → Option Code → Loop, rec = fun st pe => { state := st, pending := pe, fn, tmps := a.tmps, params := ps, assign, body, defers := w.heap.size } := ⟨_, rfl⟩
  obtain ⟨W1, hW1⟩ : ∃ W1, (w.alloc (.deferred (some []))).alloc (.loop (rec .ready none)) = W1 := ⟨_, rfl⟩
  have hL1 : W1.heap[w.heap.size + 1]? = some (.loop (rec .ready none)) := by
    rw [← hW1]; have := World.alloc_heap_new (w.alloc (.deferred (some []))) (.loop (rec .ready none)); rwa [World.size_alloc] at this
  have hK1 : W1.heap[w.heap.size]? = some (.deferred (some [])) := by
    rw [← hW1]; exact (Below.heap_alloc _ _ _ (by simp)).trans (World.alloc_heap_new w _)
  have hS1 : St w0 s0 W1 := by
    rw [← hW1]
    exact (hst.grown (World.grownBy_alloc _ _ none) (fun r e => by cases e)).grown (World.grownBy_alloc _ _ none) (fun r e => by cases e)
  have eg : ∀ args w, (callFunc 38 args).run Tryd.prog w = .ok (.enter 38 args) w := enters_of Tryd.func38 (by kernel_rfl) rfl
  refine ⟨w.heap.size + 1, [{ target := .collected w.heap.size, args := #[] }], W1, { target := .fn (.func 38) #[.pointer (some ⟨w0.heap.size + 1 + 1, 0, none⟩), .pointer (some ⟨w0.heap.size + 1, 0, none⟩), .pointer (some ⟨w0.heap.size + 1 + 1 + 1, 0, none⟩)], args := #[.func (.yield (w.heap.size + 1)) #[] #[]] }, W1, 38,
    #[.func (.yield (w.heap.size + 1)) #[] #[], .pointer (some ⟨w0.heap.size + 1 + 1, 0, none⟩), .pointer (some ⟨w0.heap.size + 1, 0, none⟩), .pointer (some ⟨w0.heap.size + 1 + 1 + 1, 0, none⟩)], W1, ?_, ?_, ?_, ?_, fun _ => by omega, ?_⟩
  · rw [← hW1, hrec]; exact run_enterLoop_outer _ _ _ _ _
  · simp only [resolve, hg]
    simp [go_sem]
  · intro f' hf'; trivial
  · simp [invoke, go_sem, eg]
  · have jset : ∀ (A : World) (v : Value), (A.heap[w.heap.size + 1]? = some (.loop (rec .ready none)) ∧ A.heap[w.heap.size]? = some (.deferred (some []))) →
        ((A.setCell ⟨w0.heap.size + 1, 0, none⟩ v).heap[w.heap.size + 1]? = some (.loop (rec .ready none)) ∧ (A.setCell ⟨w0.heap.size + 1, 0, none⟩ v).heap[w.heap.size]? = some (.deferred (some []))) := fun A v h =>
      ⟨(KeepsOthers.setCell A _ v).same _ _ h.1 rfl, (KeepsOthers.setCell A _ v).same _ _ h.2 rfl⟩
    refine (iter_in (n - 1) (by omega) (w.heap.size + 1) w0 W1 s0 hs0 hS1
      (fun W => W.heap[w.heap.size + 1]? = some (.loop (rec .ready none)) ∧ W.heap[w.heap.size]? = some (.deferred (some [])))
      (fun W => (∃ cur, St w0 cur W) ∧ W.heap[w.heap.size + 1]? = some (.loop (rec .done (some .ret))) ∧ W.heap[w.heap.size]? = some (.deferred (some [])))
      ⟨hL1, hK1⟩ jset ?_ ?_).mono ?_
    · rintro x cur W hs ⟨hl, hk⟩ hgood
      have hy := run_yield (P := Tryd.prog) (args := #[.string x]) hl (by rw [hrec]; simp [hps])
      have hb := run_beginRound (P := Tryd.prog) hl (by rw [hrec])
      have hl2 : (W.putObj (w.heap.size + 1) (.loop { rec .ready none with state := .busy })).heap[w.heap.size + 1]? = some (.loop { rec .ready none with state := .busy }) := World.putObj_heap_same (Array.getElem?_eq_some_iff.1 hl).1
      have hend := run_endRound (P := Tryd.prog) none hl2
      have hback : (W.putObj (w.heap.size + 1) (.loop { rec .ready none with state := .busy })).putObj (w.heap.size + 1) (.loop (rec .ready none)) = W := putObj_back hl
      rw [hrec] at hy hb hend hback
      simp only [Option.isNone_none, if_true] at hend
      rw [hback] at hend
      refine ⟨fn, _, assign, body, hy, roundIn_of_wpIn trivial (hassign _ x W _ ⟨_, hb, ?_⟩)⟩
      refine wpIn_mono (hbody1 _ x _ hgood) ?_
      rintro e a3 W3 ⟨rfl, rfl⟩
      exact ⟨_, _, hend, rfl, rfl⟩
    · rintro x cur W hs ⟨hl, hk⟩ hgood
      have hy := run_yield (P := Tryd.prog) (args := #[.string x]) hl (by rw [hrec]; simp [hps])
      have hb := run_beginRound (P := Tryd.prog) hl (by rw [hrec])
      have hl2 : (W.putObj (w.heap.size + 1) (.loop { rec .ready none with state := .busy })).heap[w.heap.size + 1]? = some (.loop { rec .ready none with state := .busy }) := World.putObj_heap_same (Array.getElem?_eq_some_iff.1 hl).1
      have hk2 : (W.putObj (w.heap.size + 1) (.loop { rec .ready none with state := .busy })).heap[w.heap.size]? = some (.deferred (some [])) := (World.putObj_heap_other (by omega)).trans hk
      have hs2 : St w0 cur (W.putObj (w.heap.size + 1) (.loop { rec .ready none with state := .busy })) :=
        hs.grown (grownBy_putObj' _ _ _) (fun r e => by cases e; exact ⟨by omega, _, hl, rfl⟩)
      obtain ⟨W2, hW2⟩ : ∃ W2, W.putObj (w.heap.size + 1) (.loop { rec .ready none with state := .busy }) = W2 := ⟨_, rfl⟩
      rw [hW2] at hb hl2 hk2 hs2
      have hl3 := (KeepsOthers.setCell W2 ⟨w0.heap.size, 0, none⟩ (.bool false)).same _ _ hl2 rfl
      have hk3 := (KeepsOthers.setCell W2 ⟨w0.heap.size, 0, none⟩ (.bool false)).same _ _ hk2 rfl
      have hend := run_endRound (P := Tryd.prog) (some .ret) hl3
      refine ⟨fn, _, assign, body, by rw [hrec] at hy; exact hy, roundIn_of_wpIn trivial (hassign _ x W _ ⟨_, hb, ?_⟩)⟩
      refine wpIn_mono (hbody2 _ x _ hgood hs2.res hs2.resF) ?_
      rintro e a3 W3 ⟨rfl, rfl⟩
      refine ⟨_, _, hend, rfl, ⟨cur, ?_⟩, ?_, (World.putObj_heap_other (by omega)).trans hk3⟩
      · refine St.grown (W := W2.setCell ⟨w0.heap.size, 0, none⟩ (.bool false)) ?_ (grownBy_putObj' _ _ _) (fun r e => by cases e; exact ⟨by omega, _, hl3, rfl⟩)
        exact { below := hs2.below.setCell (p := ⟨w0.heap.size, 0, none⟩) (Nat.le_refl _) _
                res := World.cell?_setCell_same' _ _ _ (by rw [hs2.res]; rfl)
                resF := by rw [World.frozen?_setCell]; exact hs2.resF
                s := by rw [World.cell?_setCell_other _ _ _ _ (by simp)]; exact hs2.s
                sF := by rw [World.frozen?_setCell]; exact hs2.sF
                sep := by rw [World.cell?_setCell_other _ _ _ _ (by simp)]; exact hs2.sep
                save := by rw [World.cell?_setCell_other _ _ _ _ (by simp)]; exact hs2.save }
      · rw [World.putObj_heap_same (Array.getElem?_eq_some_iff.1 hl3).1, hrec]
        rfl
    · rintro e W2 ⟨⟨v, rfl⟩, (⟨hall, ⟨cur, hs⟩, hl, hk⟩ | ⟨hall, ⟨cur, hs⟩, hl, hk⟩)⟩
      · refine ⟨none, _, by have := run_endLoop (P := Tryd.prog) hl (by rw [hrec]; simp); rw [hrec] at this; exact this, hdone w.heap.size cur _ (Nat.le_refl _) hall ?_ ((World.putObj_heap_other (by omega)).trans hk)⟩
        exact hs.grown (grownBy_putObj' _ _ _) (fun r e => by cases e; exact ⟨by omega, _, hl, rfl⟩)
      · refine ⟨some .ret, _, by have := run_endLoop (P := Tryd.prog) hl (by rw [hrec]; simp); rw [hrec] at this; exact this, hstop w.heap.size cur _ (Nat.le_refl _) hall ?_ ((World.putObj_heap_other (by omega)).trans hk)⟩
        exact hs.grown (grownBy_putObj' _ _ _) (fun r e => by cases e; exact ⟨by omega, _, hl, rfl⟩)

end Go.Proofs.Qxb6604302aDoor
