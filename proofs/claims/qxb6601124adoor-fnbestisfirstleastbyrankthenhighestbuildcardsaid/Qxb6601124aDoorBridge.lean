/-
  The walk of a region with one call, by the steps of a quiet walk.
-/
import Derived.Test.Qxb6601124aDoorTwo
namespace Go.Proofs.Qxb6601124aDoor
open Go
section
variable {P : Program} {ops : Array Oper}

/-- Operations that never enter a call. -/
def plainB : Op → Bool
  | .move _ | .assign _ | .load .. | .indexAddr .. | .fieldAddr .. | .build .. => true
  | _ => false

theorem value_run (s : Sem Value) (w : World) (f : FuncId) (args : Array Value) (w' : World) : (do pure (Next.value (← s)) : Sem Next).run P w ≠ .ok (.enter f args) w' := by
  intro h
  simp only [Sem.run_bind] at h
  cases hr : s.run P w with
  | ok v w1 => rw [hr] at h; simp [Result.andThen] at h
  | halt x w1 => rw [hr] at h; simp [Result.andThen] at h

theorem plain_run {o : Oper} (ho : plainB o.op = true) (ρ : Operand → Value) (w : World) (f : FuncId) (args : Array Value) (w' : World) : (execOp ρ o).run P w ≠ .ok (.enter f args) w' := by
  unfold execOp
  split <;> first
    | exact value_run _ w f args w'
    | (intro h; simp at h; done)
    | (rename_i heq; rw [heq] at ho; cases ho)

theorem quiet_any {C E : World → Prop} {w : World} {v : Value} {r : Result Next} (h : Oper.quietUpon P C w v r) (hr : ∀ f args w', r ≠ .ok (.enter f args) w') : Oper.quietUpon P E w v r := by
  cases r with
  | halt x w' => exact h
  | ok n w' =>
    cases n
    case enter f args => exact absurd rfl (hr f args w')
    all_goals exact h

theorem walkR_add {R : Nat → Value → Sem Next → Prop} {Q : Act → Prop} (f2 : Nat) : ∀ (f1 k : Nat) (a : Act), walkR ops R (walkR ops R Q f2 (k + f1)) f1 k a → walkR ops R Q (f1 + f2) k a
  | 0, k, a, h => by rw [Nat.zero_add]; exact h
  | f1 + 1, k, a, h => by
    rw [show f1 + 1 + f2 = (f1 + f2) + 1 by omega]
    refine oneOp_mono (fun a' h' => walkR_add f2 f1 (k + 1) a' ?_) h
    rw [show k + 1 + f1 = k + (f1 + 1) by omega]
    exact h'

/-- A world of one of the two classes. (A structure of its own: the walk's simp takes a subtype apart.) -/
structure InC (C : Bool → World → Prop) where
  val : World
  ok : ∃ b, C b val

/-- Plain operations by the steps of a quiet walk, in the worlds of both classes. -/
theorem walkR_quiet {C : Bool → World → Prop} {s : Nat} {Q : Act → Prop} : ∀ (l : List Oper) (k : Nat) (a : Act), (∀ j, j < l.length → l[j]? = ops[k + j]?) → (s < k ∨ k + l.length ≤ s) → l.all (fun o => plainB o.op) = true →
    wpQuiet P ops (fun w => ∃ p : InC C, w = p.val) Q l a → walkR ops (RC P C s) Q l.length k a
  | [], k, a, _, _, _, h => h
  | o :: l, k, a, hl, hs, hp, h => by
    have h0 : ops[k]? = some o := by simpa using (hl 0 (by simp)).symm
    simp only [List.all_cons, Bool.and_eq_true] at hp
    simp only [List.length_cons] at hs ⊢
    unfold walkR oneOp
    simp only [h0]
    unfold wpQuiet at h
    have next := fun a' h' => walkR_quiet (C := C) (s := s) (Q := Q) l (k + 1) a' (fun j hj => by have := hl (j + 1) (by simp; omega); simpa [Nat.add_assoc, Nat.add_comm 1 j] using this) (by omega) hp.2 h'
    split
    · rename_i hw
      simp only [hw, if_true] at h
      obtain ⟨v, h1, h2⟩ := h
      refine ⟨v, ?_, next _ h2⟩
      unfold RC
      rw [if_neg (by omega)]
      intro b w hC
      exact quiet_any (h1 w ⟨⟨w, b, hC⟩, rfl⟩) (fun f args w' => plain_run hp.1 _ w f args w')
    · rename_i hw
      simp only [hw] at h
      exact next _ h

/-- The same for a part of a region that is written out. -/
theorem walkR_part {C : Bool → World → Prop} {s : Nat} {Q : Act → Prop} {l : List Oper} {a : Act} (f k : Nat) (hB : (decide (k + f ≤ l.length) && (decide (s < k) || decide (k + f ≤ s)) && ((l.drop k).take f).all (fun o => plainB o.op)) = true)
    (h : wpQuiet P l.toArray (fun w => ∃ p : InC C, w = p.val) Q ((l.drop k).take f) a) : walkR l.toArray (RC P C s) Q f k a := by
  simp only [Bool.and_eq_true, Bool.or_eq_true, decide_eq_true_eq] at hB
  obtain ⟨⟨h1, h2⟩, h3⟩ := hB
  have hl : ((l.drop k).take f).length = f := by rw [List.length_take, List.length_drop]; omega
  have := walkR_quiet (P := P) (ops := l.toArray) (C := C) (s := s) (Q := Q) ((l.drop k).take f) k a (fun j hj => by
    rw [hl] at hj
    rw [List.getElem?_take_of_lt hj, List.getElem?_drop]; simp) (by rw [hl]; exact h2) h3 h
  rwa [hl] at this

/-- The call. -/
theorem walkR_call {C : Bool → World → Prop} {s : Nat} {Q : Act → Prop} {a : Act} (f : Nat) (o : Oper) (v : Value) (ho : ops[s]? = some o) (hw : ∀ tm, Region.wanted o tm = true)
    (hc : ∀ w, C false w → ∃ fn args, (execOp a.eval o).run P w = .ok (.enter fn args) w ∧ Calls P fn args w (fun e w'' => e = .returned v ∧ C true w''))
    (h : walkR ops (RC P C s) Q f (s + 1) (a.put o.dst v)) : walkR ops (RC P C s) Q (f + 1) s a := by
  unfold walkR oneOp
  simp only [ho, hw, if_true]
  refine ⟨v, ?_, h⟩
  unfold RC
  rw [if_pos rfl]
  exact hc
end
end Go.Proofs.Qxb6601124aDoor
