/-
  A region that draws its order, with ONE call that leads from one class of worlds to another; all other operations are quiet in both; the tail is forced.
-/
import Derived.StillTail
import Derived.Deep.Quiet
namespace Go.Proofs.Qxb6601124aDoor
open Go
section
variable {P : Program} {ops : Array Oper} {md : Region.Mode} {R : Nat → Value → Sem Next → Prop}

/-- Operation i comes up, and yields what R allows. -/
def oneOp (ops : Array Oper) (R : Nat → Value → Sem Next → Prop) (i : Nat) (K : Act → Prop) (a : Act) : Prop :=
  match ops[i]? with
  | none => K a
  | some o => if Region.wanted o (yielded ops a.tmps) then ∃ v, R i v (execOp a.eval o) ∧ K (a.put o.dst v) else K (a.put o.dst undef)

def YieldsR (ops : Array Oper) (R : Nat → Value → Sem Next → Prop) (i : Nat) (o : Oper) (v : Value) (a : Act) : Prop :=
  (Region.wanted o (yielded ops a.tmps) = true ∧ R i v (execOp a.eval o)) ∨ (Region.wanted o (yielded ops a.tmps) = false ∧ v = undef)

theorem oneOp_mono {i : Nat} {a : Act} {K K' : Act → Prop} (h : ∀ a, K a → K' a) (hh : oneOp ops R i K a) : oneOp ops R i K' a := by
  unfold oneOp at *
  split
  · rename_i ho; simp only [ho] at hh; exact h _ hh
  · rename_i o ho
    simp only [ho] at hh
    split
    · rename_i hw; simp only [hw, if_true] at hh
      obtain ⟨v, h1, h2⟩ := hh
      exact ⟨v, h1, h _ h2⟩
    · rename_i hw; simp only [hw] at hh; exact h _ hh

theorem YieldsR.oneOp {i : Nat} {o : Oper} {v : Value} {a : Act} (hi : ops[i]? = some o) (hy : YieldsR ops R i o v a) {K : Act → Prop} (h : K (a.put o.dst v)) : oneOp ops R i K a := by
  unfold Qxb6601124aDoor.oneOp
  simp only [hi]
  rcases hy with ⟨hw, hv⟩ | ⟨hw, rfl⟩
  · simp only [hw, if_true]; exact ⟨v, hv, h⟩
  · simp only [hw, Bool.false_eq_true, if_false]; exact h

theorem yieldsR_of {i : Nat} {o : Oper} {a : Act} {K : Act → Prop} (hi : ops[i]? = some o) (h : oneOp ops R i K a) : ∃ v, YieldsR ops R i o v a ∧ K (a.put o.dst v) := by
  unfold oneOp at h
  simp only [hi] at h
  by_cases hw : Region.wanted o (yielded ops a.tmps) = true
  · simp only [hw, if_true] at h
    obtain ⟨v, h1, h2⟩ := h
    exact ⟨v, .inl ⟨hw, h1⟩, h2⟩
  · simp only [hw] at h
    exact ⟨undef, .inr ⟨by simpa using hw, rfl⟩, h⟩

theorem oneOp_put {i j : Nat} {oi oj : Oper} {v : Value} (hj : ops[j]? = some oj) (hap : oi.apart ops oj = true)
    (hsi : ∀ cs b, oi.op ≠ .select cs b) (hsj : ∀ cs b, oj.op ≠ .select cs b) {K : Act → Prop} {a : Act}
    (hy : YieldsR ops R i oi v a) (h : oneOp ops R j K (a.put oi.dst v)) :
    oneOp ops R j (fun a' => YieldsR ops R i oi v a' ∧ K (a'.put oi.dst v)) a := by
  obtain ⟨h1, h2, h3⟩ := Oper.apart_spec hap
  have keep : ∀ u, YieldsR ops R i oi v (a.put oj.dst u) := fun u => by
    unfold YieldsR at *
    rw [execOp_put oi hsi a oj.dst u h3, wanted_put oi a oj.dst u h3]
    exact hy
  obtain ⟨u, hu, hK⟩ := yieldsR_of hj h
  refine YieldsR.oneOp hj (v := u) ?_ ⟨keep u, by rw [← Act.put_comm a v u h2]; exact hK⟩
  unfold YieldsR at hu ⊢
  rw [execOp_put oj hsj a oi.dst v h1, wanted_put oj a oi.dst v h1] at hu
  exact hu

/-- Whatever order the head takes, it comes to L. -/
def headR (md : Region.Mode) (ops : Array Oper) (R : Nat → Value → Sem Next → Prop) (n : Nat) (L : Array Bool → Act → Prop) : Nat → Array Bool → Act → Prop
  | 0, listed, a => L listed a
  | f + 1, listed, a => Region.ready md ops listed ≠ [] ∧ ∀ i ∈ Region.ready md ops listed, i < n ∧ oneOp ops R i (headR md ops R n L f (listed.setIfInBounds i true)) a

theorem headR_first {n i : Nat} {oi : Oper} {v : Value} {L : Array Bool → Act → Prop} (hi : ops[i]? = some oi) (hsel : ∀ (j : Nat) (o : Oper) cs b, ops[j]? = some o → o.op ≠ .select cs b)
    (hs : Region.sinkB md ops n = true) (hc : Region.chainB md ops n = true) (hn : n < ops.size) (hin : i < n)
    (hdone : ∀ listed a, L listed a → ∀ j ∈ Region.ready md ops listed, n ≤ j) (f : Nat) :
    ∀ (listed : Array Bool) (a : Act), HeadInv md ops n listed →
      (∀ j oj, ops[j]? = some oj → j ≠ i → listed.getD j true = false → (∀ e ∈ oj.after, Region.binds md e = true → e.on ≠ i) → oi.apart ops oj = true) →
      i ∈ Region.ready md ops listed → YieldsR ops R i oi v a →
      headR md ops R n L f (listed.setIfInBounds i true) (a.put oi.dst v) → headR md ops R n L (f + 1) listed a := by
  induction f with
  | zero =>
    intro listed a inv _ hr hy H
    have hun := (mem_ready.1 hr).1
    refine ⟨List.ne_nil_of_mem hr, fun j hj => ?_⟩
    have hjn : j < n := Nat.lt_of_not_le fun h => tail_waits hs hc hn inv _ i rfl hin hun j h hj
    by_cases hji : j = i
    · subst hji; exact ⟨hjn, hy.oneOp hi H⟩
    · have := hdone _ _ H j (ready_mono hj hji)
      omega
  | succ f ih =>
    intro listed a inv hfree hr hy H
    have hun := (mem_ready.1 hr).1
    refine ⟨List.ne_nil_of_mem hr, fun j hj => ?_⟩
    have hjn : j < n := Nat.lt_of_not_le fun h => tail_waits hs hc hn inv _ i rfl hin hun j h hj
    refine ⟨hjn, ?_⟩
    by_cases hji : j = i
    · subst hji; exact hy.oneOp hi H
    · have h1 := (H.2 j (ready_mono hj hji)).2
      obtain ⟨hjun, oj, hoj, hall⟩ := mem_ready.1 hj
      have hnot : ∀ e ∈ oj.after, Region.binds md e = true → e.on ≠ i := fun e he hb heq => by
        have h2 := hall e he hb
        rw [heq, getD_both hun] at h2
        cases h2
      have h2 := oneOp_put hoj (hfree j oj hoj hji hjun hnot) (fun cs b => hsel i oi cs b hi) (fun cs b => hsel j oj cs b hoj) hy h1
      refine oneOp_mono (fun a' h3 => ih (listed.setIfInBounds j true) a' (inv.set hj hjn) (fun k ok hk hki hun' hno => hfree k ok hk hki ?_ hno) (ready_mono hr (Ne.symm hji)) h3.1 ?_) h2
      · by_cases hjk : j = k
        · subst hjk; exact hjun
        · rw [getD_set_ne true hjk] at hun'; exact hun'
      · rw [Array.setIfInBounds_comm _ _ hji]
        exact h3.2

/-- The walk in the order of the text, from operation k on. -/
def walkR (ops : Array Oper) (R : Nat → Value → Sem Next → Prop) (Q : Act → Prop) : Nat → Nat → Act → Prop
  | 0, _, a => Q a
  | f + 1, k, a => oneOp ops R k (walkR ops R Q f (k + 1)) a

theorem getD_done {listed : Array Bool} {i : Nat} (h : listed.getD i true = false) : (listed.setIfInBounds i true).getD i false = true := by
  rcases Nat.lt_or_ge i listed.size with h' | h'
  · simp [h']
  · simp [Array.getElem?_eq_none h'] at h

theorem headR_lex {n g s : Nat} {Lq : Act → Prop} (hsel : Region.noSelect ops = true) (hs : Region.sinkB md ops n = true) (hc : Region.chainB md ops n = true) (hn : n < ops.size) (hsn : s < n) :
    ∀ (f k : Nat) (listed : Array Bool) (a : Act), k + f = n → HeadInv md ops n listed → (∀ i, i < k → listed.getD i false = true) →
    Region.lexHead md ops g f k listed = true → walkR ops R Lq f k a →
    headR md ops R n (fun listed' a' => Region.seqB md ops g n listed' = true ∧ listed'.getD s false = true ∧ Lq a') f listed a
  | 0, k, listed, a, hk, _, hd, hB, h => by
    obtain rfl : k = n := by omega
    exact ⟨by simpa [Region.lexHead] using hB, hd s hsn, h⟩
  | f + 1, k, listed, a, hk, inv, hd, hB, h => by
    have hkn : k < n := by omega
    have h0 : ops[k]? = some ops[k] := Array.getElem?_eq_getElem (by omega)
    simp only [Region.lexHead, Bool.and_eq_true] at hB
    obtain ⟨⟨hr, hf⟩, hB'⟩ := hB
    have hr' : k ∈ Region.ready md ops listed := by simpa using hr
    obtain ⟨v, hy, hK⟩ := yieldsR_of h0 h
    exact headR_first h0 (Region.noSelect_spec hsel) hs hc hn hkn (fun listed' a' hL => seqB_ready hL.1) f listed a inv (Region.free_spec h0 hf) hr' hy
      (headR_lex hsel hs hc hn hsn f (k + 1) _ _ (by omega) (inv.set hr' hkn) (fun i hi => by
        by_cases e : i = k
        · subst e; exact getD_done (mem_ready.1 hr').1
        · exact getD_set_true (hd i (by omega))) hB' hK)

/-- Operation s is a call that leads from the class C false to the class C true; every other one is quiet in both. -/
def RC (P : Program) (C : Bool → World → Prop) (s i : Nat) (v : Value) (sem : Sem Next) : Prop :=
  if i = s then ∀ w, C false w → ∃ f args, sem.run P w = .ok (.enter f args) w ∧ Calls P f args w (fun e w'' => e = .returned v ∧ C true w'')
  else ∀ b w, C b w → Oper.quietUpon P (C b) w v (sem.run P w)

theorem any_of_headR {C : Bool → World → Prop} {n g s : Nat} {L : Array Bool → Act → Prop} {Q' : Exit → Act → World → Prop} (hsw : ∀ o tm, ops[s]? = some o → Region.wanted o tm = true)
    (hL : ∀ listed a w, C (listed.getD s false) w → L listed a → wpAny P md ops Q' g listed a w) :
    ∀ (f : Nat) (listed : Array Bool) (a : Act) (w : World), C (listed.getD s false) w → headR md ops (RC P C s) n L f listed a → wpAny P md ops Q' (f + g) listed a w
  | 0, listed, a, w, hw, h => by rw [Nat.zero_add]; exact hL _ _ _ hw h
  | f + 1, listed, a, w, hw, h => by
    rw [show f + 1 + g = (f + g) + 1 by omega]
    refine ⟨fun h0 => absurd h0 h.1, fun i hi => ?_⟩
    obtain ⟨hun, o, ho, _⟩ := mem_ready.1 hi
    have hop := (h.2 i hi).2
    have next := fun a' w' hw' h' => any_of_headR (n := n) (L := L) hsw hL f (listed.setIfInBounds i true) a' w' hw' h'
    unfold oneOp at hop
    unfold wpOp
    simp only [ho] at hop ⊢
    by_cases his : i = s
    · subst his
      have hwt := hsw o (yielded ops a.tmps) ho
      simp only [hwt, if_true] at hop ⊢
      obtain ⟨v, hR, hK⟩ := hop
      unfold RC at hR
      rw [if_pos rfl] at hR
      rw [getD_both hun] at hw
      obtain ⟨fid, args, hrun, hc⟩ := hR w hw
      left
      unfold Oper.wp
      rw [hrun]
      simp only [Oper.upon]
      exact hc.mono fun e w'' ⟨he, hw''⟩ => by subst he; exact next _ _ (by rw [getD_done hun]; exact hw'') hK
    · have hkeep : (listed.setIfInBounds i true).getD s false = listed.getD s false := getD_set_ne false his
      split
      · rename_i hwt
        simp only [hwt, if_true] at hop
        obtain ⟨v, hR, hK⟩ := hop
        unfold RC at hR
        rw [if_neg his] at hR
        exact .inl (Oper.wp_of_quiet (C := C (listed.getD s false)) (K := headR md ops (RC P C s) n L f (listed.setIfInBounds i true)) hw (fun a' w' hw' h' => next a' w' (by rw [hkeep]; exact hw') h') ⟨v, fun w' hw' => hR _ w' hw', hK⟩)
      · rename_i hwt
        simp only [hwt] at hop
        exact next _ _ (by rw [hkeep]; exact hw) hop

/-- **The head in the order of the text, one call in it, then the tail.** -/
theorem wp_region_two {C : Bool → World → Prop} {id : Nat} {Q : Exit → Act → World → Prop} {a : Act} {w : World} {l : List Oper} (n s : Nat) (hm : P.follows .mixedOrders = true) (hB : Region.lexTailB .any l.toArray n = true) (hsn : s < n)
    (hsw : ∀ o tm, l.toArray[s]? = some o → Region.wanted o tm = true) (hC : C false { w with drawn := w.drawn + 1 })
    (h : walkR l.toArray (RC P C s) (fun a' => ∀ w', C true w' → wpList P l.toArray Q (l.drop n) a' w') n 0 a) : (Code.region id l.toArray true).wp P Q a w := by
  simp only [Region.lexTailB, Bool.and_eq_true, decide_eq_true_eq] at hB
  obtain ⟨⟨⟨⟨hsel, hn⟩, hs⟩, hc⟩, hlex⟩ := hB
  have hn' : n < l.length := by simpa using hn
  have hdl : (l.drop n).length = l.toArray.size - n := by simp
  have inv0 : HeadInv .any l.toArray n (Array.replicate l.toArray.size false) :=
    ⟨by simp, fun j oj _ hl => (by rw [getD_replicate_false] at hl; cases hl), fun t _ ht => getD_in (by simpa using ht) (getD_replicate_false _ _)⟩
  have H := headR_lex (md := .any) (g := l.toArray.size - n) hsel hs hc hn hsn n 0 _ a (by omega) inv0 (fun i hi => by omega) hlex h
  refine wp_region_any hm ?_
  have := any_of_headR (Q' := Q) (g := l.toArray.size - n) hsw (fun listed a' w' hw' hL => by
    rw [hL.2.1] at hw'
    have := wpAny_of_seq (md := .any) (Q' := Q) (l.drop n) n listed a' w' (fun j => by simp [List.getElem?_drop]) (by rw [hdl]; exact hL.1) (hL.2.2 w' hw')
    rwa [hdl] at this) _ _ _ _ (by rw [getD_replicate_false]; exact hC) H
  rw [show n + (l.toArray.size - n) = l.toArray.size by omega] at this
  exact this
end
end Go.Proofs.Qxb6601124aDoor
