/-
  The two slices that come in, opened.
-/
import Derived.Test.Qxb6601124aDoorTopB
import Derived.Deep.Slices
import Derived.Deep.Strs
import Derived.Lib.SmallJoins
import Derived.Carry
namespace Go.Proofs.Qxb6601124aDoor
open Go.RowKit Go.Shelf Go.ChangeShapes Go.WideShapes Go.Deep
set_option linter.unusedVariables false

theorem Tryd.cells9 : Tryd.prog.cellsOf 9 = 1 := by kernel_rfl
theorem Tryd.cells28 : Tryd.prog.cellsOf 28 = 1 := by kernel_rfl
theorem Tryd.cells58 : Tryd.prog.cellsOf 58 = 4 := by kernel_rfl
theorem Tryd.cells60 : Tryd.prog.cellsOf 60 = 3 := by kernel_rfl
theorem Tryd.laidOut : laidOutB Tryd.prog = true := by kernel_rfl

instance : Inhabited T := ⟨⟨⟨#[]⟩, ⟨#[]⟩, ⟨#[]⟩⟩⟩
instance : Inhabited Nm := ⟨⟨⟨#[]⟩, ⟨#[]⟩, ⟨#[]⟩, []⟩⟩

theorem spot_none {w : World} {a : Addr} {v : Value} (h : w.cell? a = some v) : a.spot = none := by
  unfold World.cell? at h
  split at h
  · split at h
    · cases h
    · rename_i hs
      simpa using hs
  · cases h
theorem add_plain (b o k : Nat) : (⟨b, o, none⟩ : Addr).add k = ⟨b, o + k, none⟩ := by
  unfold Addr.add
  split
  · rename_i h; rw [h]; rfl
  · rfl

theorem len3 {α : Type} {l : List α} (h : l.length = 3) : ∃ a b c, l = [a, b, c] := by
  match l, h with
  | [a, b, c], _ => exact ⟨a, b, c, rfl⟩
theorem len4 {α : Type} {l : List α} (h : l.length = 4) : ∃ a b c d, l = [a, b, c, d] := by
  match l, h with
  | [a, b, c, d], _ => exact ⟨a, b, c, d, rfl⟩

section
variable {H : Type} {enc : TypeId × Value → H} {w : World}

/-- One tag's three cells. -/
theorem tag_open {fuel : Nat} {cs : List Value} {x : DataW H × List MemPlace} (h : DataW.trod enc Tryd.prog w 0 (fun _ => true) true fuel 60 cs = some x) :
    ∃ t : T, cs = [.string t.p, .string t.a, .string t.l] := by
  obtain ⟨y0, y1, y2, n, _, hl, h0, h1, h2⟩ := trod_struct3 Tryd.underlying60 h
  rw [Tryd.cells60] at hl
  obtain ⟨c0, c1, c2, rfl⟩ := len3 hl
  simp only [Tryd.cells9, List.drop_zero, List.drop_succ_cons, List.take_succ_cons, List.take_zero] at h0 h1 h2
  obtain ⟨s0, e0, _⟩ := DataW.trod_string Tryd.underlying9 h0
  obtain ⟨s1, e1, _⟩ := DataW.trod_string Tryd.underlying9 h1
  obtain ⟨s2, e2, _⟩ := DataW.trod_string Tryd.underlying9 h2
  simp only [List.cons.injEq, and_true] at e0 e1 e2
  exact ⟨⟨s0, s1, s2⟩, by rw [e0, e1, e2]⟩

theorem tags_open {fuel : Nat} {cs : List Value} {x : DataW H × List MemPlace} (h : DataW.trod enc Tryd.prog w 0 (fun _ => true) true fuel 28 cs = some x) :
    ∃ (A : Option Addr) (ts : List T) (c : Nat), cs = [.slice A ts.length c] ∧ TagsAt w A ts := by
  rcases open_slice Tryd.underlying28 h with ⟨rfl, _⟩ | ⟨a, len, cap, m, n, D, Pl, rfl, _, hl, _, hmm, _, hx⟩
  · exact ⟨none, [], 0, rfl, fun j t ht => by simp at ht⟩
  · simp only [if_true] at hmm
    obtain ⟨f, hf⟩ := choose_lt (α := T) (n := len) (p := fun i t => w.cells? 0 (a.add (i * 3)) 3 = some [.string t.p, .string t.a, .string t.l]) (fun i hi => by
      obtain ⟨cs', h1, h2⟩ := hx i (by omega)
      rw [Tryd.cells60] at h1
      obtain ⟨t, rfl⟩ := tag_open h2
      exact ⟨t, h1⟩)
    refine ⟨some a, (List.range len).map f, cap, by simp, fun j t ht => ?_⟩
    have hj : j < len := by simpa using (List.getElem?_eq_some_iff.1 ht).1
    have ht2 : f j = t := by simpa [hj] using ht
    have hc0 := (World.cells?_some (hf 0 (by omega))).2.2 0 (by omega)
    rw [Nat.zero_mul] at hc0
    have hs : a.spot = none := spot_none (a := a) (v := .string (f 0).p) (by simpa [Addr.add] using hc0)
    obtain ⟨b, o, sp⟩ := a
    obtain rfl : sp = none := hs
    obtain ⟨_, _, hc⟩ := World.cells?_some (hf j hj)
    rw [ht2] at hc
    have h0 := hc 0 (by omega)
    have h1 := hc 1 (by omega)
    have h2 := hc 2 (by omega)
    simp only [add_plain] at h0 h1 h2
    exact ⟨b, o, rfl, World.block_lt_of_cell? _ _ h0, h0, h1, h2⟩

/-- One name's four cells. -/
theorem name_open {fuel : Nat} {cs : List Value} {x : DataW H × List MemPlace} (h : DataW.trod enc Tryd.prog w 0 (fun _ => true) true fuel 58 cs = some x) :
    ∃ (n : Nm) (A : Option Addr) (c : Nat), cs = [.string n.pr, .string n.ve, .string n.bu, .slice A n.tags.length c] ∧ TagsAt w A n.tags := by
  obtain ⟨y0, y1, y2, y3, n, _, hl, h0, h1, h2, h3⟩ := Joins.trod_struct4 Tryd.underlying58 h
  rw [Tryd.cells58] at hl
  obtain ⟨c0, c1, c2, c3, rfl⟩ := len4 hl
  simp only [Tryd.cells9, Tryd.cells28, List.drop_zero, List.drop_succ_cons, List.take_succ_cons, List.take_zero] at h0 h1 h2 h3
  obtain ⟨s0, e0, _⟩ := DataW.trod_string Tryd.underlying9 h0
  obtain ⟨s1, e1, _⟩ := DataW.trod_string Tryd.underlying9 h1
  obtain ⟨s2, e2, _⟩ := DataW.trod_string Tryd.underlying9 h2
  obtain ⟨A, ts, c, e3, ht⟩ := tags_open h3
  simp only [List.cons.injEq, and_true] at e0 e1 e2 e3
  exact ⟨⟨s0, s1, s2, ts⟩, A, c, by rw [e0, e1, e2, e3], ht⟩

theorem names_open {fuel : Nat} {cs : List Value} {x : DataW H × List MemPlace} (h : DataW.trod enc Tryd.prog w 0 (fun _ => true) true fuel 27 cs = some x) :
    ∃ (A : Option Addr) (ns : List Nm) (c : Nat), cs = [.slice A ns.length c] ∧ NamesAt w A ns := by
  rcases open_slice Tryd.underlying27 h with ⟨rfl, _⟩ | ⟨a, len, cap, m, n, D, Pl, rfl, _, hl, _, hmm, _, hx⟩
  · exact ⟨none, [], 0, rfl, fun j t ht => by simp at ht⟩
  · simp only [if_true] at hmm
    obtain ⟨f, hf⟩ := choose_lt (α := Nm) (n := len) (p := fun i n => ∃ (A : Option Addr) (c : Nat), w.cells? 0 (a.add (i * 4)) 4 = some [.string n.pr, .string n.ve, .string n.bu, .slice A n.tags.length c] ∧ TagsAt w A n.tags) (fun i hi => by
      obtain ⟨cs', h1, h2⟩ := hx i (by omega)
      rw [Tryd.cells58] at h1
      obtain ⟨n, A, c, rfl, ht⟩ := name_open h2
      exact ⟨n, A, c, h1, ht⟩)
    refine ⟨some a, (List.range len).map f, cap, by simp, fun j n hn => ?_⟩
    have hj : j < len := by simpa using (List.getElem?_eq_some_iff.1 hn).1
    have hn2 : f j = n := by simpa [hj] using hn
    obtain ⟨A0, c0, hz, _⟩ := hf 0 (by omega)
    have hc0 := (World.cells?_some hz).2.2 0 (by omega)
    rw [Nat.zero_mul] at hc0
    have hs : a.spot = none := spot_none (a := a) (v := .string (f 0).pr) (by simpa [Addr.add] using hc0)
    obtain ⟨b, o, sp⟩ := a
    obtain rfl : sp = none := hs
    obtain ⟨A2, c2, hq, ht⟩ := hf j hj
    obtain ⟨_, _, hc⟩ := World.cells?_some hq
    rw [hn2] at hc ht
    have h0 := hc 0 (by omega)
    have h1 := hc 1 (by omega)
    have h2 := hc 2 (by omega)
    have h3 := hc 3 (by omega)
    simp only [add_plain] at h0 h1 h2 h3
    exact ⟨b, o, A2, c2, rfl, World.block_lt_of_cell? _ _ h0, h0, h1, h2, h3, ht⟩
end
end Go.Proofs.Qxb6601124aDoor
