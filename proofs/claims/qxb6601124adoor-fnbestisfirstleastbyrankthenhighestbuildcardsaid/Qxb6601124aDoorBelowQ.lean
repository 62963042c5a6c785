/-
  A region that draws its order, whose operations only read and whose callees may make memory of their own: one walk.
-/
import Derived.Test.Qxb6601124aDoorNamesW
namespace Go.Proofs.Qxb6601124aDoor
open Go.RowKit Go.Shelf
set_option linter.unusedVariables false

/-- A world in which all that lay in wr lies as it did. -/
structure InB (wr : World) where
  val : World
  ok : Below wr.heap.size wr val
instance (wr : World) : Nonempty (InB wr) := ⟨⟨wr, Below.refl _ _⟩⟩

theorem InB.cell {wr : World} (p : InB wr) {q : Addr} {v : Value} (hq : q.block < wr.heap.size) (h : wr.cell? q = some v) : p.val.cell? q = some v :=
  (p.ok.cell hq).trans h

theorem wp_region_below {P : Program} {id : Nat} {Q : Exit → Act → World → Prop} {a : Act} {w : World} {l : List Oper} (hm : P.follows .mixedOrders = true) (hB : Region.lexB .any l.toArray = true)
    (h : wpQuiet P l.toArray (fun w' => ∃ p : InB w, w' = p.val) (fun a' => ∀ w', (∃ p : InB w, w' = p.val) → Q .normal a' w') l a) : (Code.region id l.toArray true).wp P Q a w :=
  wp_region_quiet (C := fun w' => ∃ p : InB w, w' = p.val) hm hB ⟨⟨w.drew, (Below.refl _ _).drew⟩, rfl⟩ (by simpa using h)

theorem Calls.inB_of {P : Program} {f : FuncId} {args : Array Value} {w : World} {p : InB w} {v : Value} (h : Calls P f args p.val fun e w' => e = .returned v ∧ Below p.val.heap.size p.val w') :
    Calls P f args p.val fun e w'' => e = .returned v ∧ ∃ q : InB w, w'' = q.val :=
  h.mono fun _ w' ⟨he, hb⟩ => ⟨he, ⟨w', p.ok.trans (hb.mono p.ok.size)⟩, rfl⟩

/-- Rank and build of each wheel. -/
def rk (ns : List Nm) (ts : List T) (j : Nat) : Nat := match ns[j]? with
  | some n => Pl.firstRank n.tags ts
  | none => ts.length
def bd (ns : List Nm) (j : Nat) : List UInt8 := match ns[j]? with
  | some n => n.bu.data.toList
  | none => []
theorem rk_at {ns : List Nm} {ts : List T} {j : Nat} {n : Nm} (h : ns[j]? = some n) : rk ns ts j = Pl.firstRank n.tags ts := by unfold rk; rw [h]
theorem bd_at {ns : List Nm} {j : Nat} {n : Nm} (h : ns[j]? = some n) : bd ns j = n.bu.data.toList := by unfold bd; rw [h]
theorem rk_le (ns : List Nm) (ts : List T) (j : Nat) : rk ns ts j ≤ ts.length := by
  unfold rk
  split
  · exact List.findIdx_le_length
  · exact Nat.le_refl _
end Go.Proofs.Qxb6601124aDoor
