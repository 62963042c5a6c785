/-
  The law on 'Best' holds wherever the wheels' names and the tags lie.
-/
import Derived.Test.Qxb6601124aDoorBytes
namespace Go.Proofs.Qxb6601124aDoor
open Go.RowKit Go.Shelf
set_option linter.unusedVariables false

set_option maxRecDepth 100000 in
set_option maxHeartbeats 2000000 in
theorem best_law (A A2 : Option Addr) (c c2 : Nat) (ns : List Nm) (ts : List T) (w : World) (hX : NamesAt w A ns) (hY : TagsAt w A2 ts) :
    Calls Tryd.prog 5 #[.slice A ns.length c, .slice A2 ts.length c2] w fun e w' => e = .returned (.bool true) ∧ Below w.heap.size w w' := by
  have H16 : Hid (Calls Tryd.prog 16 #[.slice A ns.length c, .slice A2 ts.length c2] w fun e w' => (e = .returned (.bool false) ∨ (e = .returned (.bool true) ∧ Small ns ts)) ∧ w' = w) := hid_mk ((bytes16_any A A2 c c2 ns ts w hX hY).mono fun e w' ⟨⟨y, he, hs⟩, hw⟩ => ⟨(by
    cases y with
    | false => exact Or.inl he
    | true => exact Or.inr ⟨he, hs rfl⟩), hw⟩)
  have HX := hid_mk hX
  have HY := hid_mk hY
  clear hX hY
  have hans : ∀ bo : Option Nat, decide (0 ≤ ansI bo) = bo.isSome := fun bo => by
    cases bo with
    | none => rfl
    | some b => simp [ansI]
  have HANS := hid_mk hans
  clear hans
  go_enter Tryd.func5, Tryd.ntmps5
  go_wp2_with (first
    | (go_at_call 16; refine H16.out.mono ?_; rintro e w1 ⟨(rfl | ⟨rfl, HS⟩), hw⟩ <;> obtain rfl := hw.symm)
    | (go_at_call 17; refine (fits_any A A2 c c2 ns ts w HS.n HS.t (fun m hm => (HS.each m hm).2) HX.out HY.out).mono ?_; rintro e w1 ⟨⟨y, rfl⟩, hb1⟩; have HB1 := hid_mk hb1; clear hb1; cases y)
    | (go_at_call 18; refine (names_any A c ns w1 HS.n (fun m hm => (HS.each m hm).2) (HX.out.below HB1.out)).mono ?_; rintro e w2 ⟨A3, c3, rfl, hN2, hb2⟩; have HN2 := hid_mk hN2; have HB2 := hid_mk (HB1.out.trans (hb2.mono HB1.out.size)); clear hN2 hb2)
    | (go_at_call 19; refine (tags_any A2 c2 ts w2 HS.t (HY.out.below HB2.out)).mono ?_; rintro e w3 ⟨he3, hT3, hb3⟩; obtain ⟨c4, hv4⟩ := copyV_eq A2 w2.heap.size ts (fun e => (by subst e; exact HY.out.nil_of)); rw [hv4] at he3; subst he3; have HT3 := hid_mk hT3; have HN3 := hid_mk (HN2.out.below hb3); have HB3 := hid_mk (HB2.out.trans (hb3.mono HB2.out.size)); clear hT3 hb3 hv4)
    | (go_at_call 20; refine (best_any A3 _ c3 c4 ns ts w3 HS.n HS.t (fun m hm => (HS.each m hm).2) (fun m hm => (HS.each m hm).1) HN3.out HT3.out).mono ?_; rintro e w4 ⟨rfl, hb4⟩; have HN4 := hid_mk (HN3.out.below hb4); have HT4 := hid_mk (HT3.out.below hb4); have HB4 := hid_mk (HB3.out.trans (hb4.mono HB3.out.size)); clear hb4)
    | (go_at_call 21; refine (bestModel_any A3 _ c3 c4 ns ts w4 HS.n HS.t (fun m hm => (HS.each m hm).2) (fun m hm => (HS.each m hm).1) HN4.out HT4.out).mono ?_; rintro e w5 ⟨rfl, hb5⟩; have HB5 := hid_mk (HB4.out.trans (hb5.mono HB4.out.size)); clear hb5))
  · go_ret
    exact ⟨rfl, Below.refl _ _⟩
  · go_ret
    exact ⟨rfl, Below.refl _ _⟩
  · go_ret
    exact ⟨rfl, Below.refl _ _⟩
  · go_ret
    exact ⟨rfl, HB1.out⟩
  · rw [HANS.out, beq_self_eq_true]
    go_ret
    exact ⟨rfl, HB5.out⟩
end Go.Proofs.Qxb6601124aDoor
