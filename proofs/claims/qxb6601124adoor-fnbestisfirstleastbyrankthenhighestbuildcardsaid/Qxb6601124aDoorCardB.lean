/-
  FnBestIsFirstLeastByRankThenHighestBuild: the row and the card.
-/
import Derived.Test.Qxb6601124aDoorCards
import Derived.Test.Qxb6601124aDoorTie
import Derived.Test.Qxb6601124aDoorOpen
import Derived.Test.Qxb6601124aDoorWrap
import Derived.WalkKit
import Derived.ProofKit
import Derived.OpenShut
import Derived.Lay
import Derived.LaidOnce
import Derived.SevenTiedAt
import Derived.Shelf.Vars
namespace Go.Proofs.Qxb6601124aDoor
open Go.ChangeShapes Go.WideShapes Go.ChangeAt Go.RowKit
open Go.WideMaps Go.WideElems
open Go.Deep

set_option maxRecDepth 100000 in
theorem lifted_best (os : Os) (started : os.Started) (H : Type) (enc : TypeId × Value → H) :
    ReturnsInHanded {} Tryd.checked os 5 .any (fun w args => (Rows.fnBestIsFirstLeastByRankThenHighestBuildSpec.pre enc Tryd.prog Tryd.f5 [] false w args ∧ laidMetH Tryd.prog Rows.fnBestIsFirstLeastByRankThenHighestBuildRow.laid w) ∧ sizedMet enc Tryd.prog Tryd.f5 (OpenSpec.ofChange Rows.fnBestIsFirstLeastByRankThenHighestBuildSpec) false w args)
      (Rows.fnBestIsFirstLeastByRankThenHighestBuildSpec.post enc Tryd.prog Tryd.f5 false true false false) := by
  refine wrap (C := Tryd.checked) (X := fun w _ => laidMetH Tryd.prog Rows.fnBestIsFirstLeastByRankThenHighestBuildRow.laid w) own started (by kernel_rfl) Tryd.func5
    (ChangeSpec.witness_shaped (enc := enc) (C := Tryd.checked) (os := os) (X := fun w _ => laidMetH Tryd.prog Rows.fnBestIsFirstLeastByRankThenHighestBuildRow.laid w) false (World.laidAll Tryd.prog os Rows.fnBestIsFirstLeastByRankThenHighestBuildRow.laid) #[.slice none 0 0, .slice none 0 0] 8 (World.laidAll_os _ _ _)
      (World.shaped_of_ZipB (by kernel_rfl) (by kernel_rfl)) (by kernel_rfl) (by kernel_rfl) (by kernel_rfl)
      (by rw [MakeChecks.laidMetH_plain _ _ _ (by kernel_rfl)]; exact laidMet_laidAll _ (by kernel_rfl) (by kernel_rfl))) ?_
  intro W base args ds gs before hval0 hW _
  have hval : ∀ (j : Nat) t v, Tryd.f5.params[j]? = some t → args[j]? = some v → Value.okWide Tryd.prog W .any base t v := hval0
  have hW' := hW
  obtain ⟨p, q, hA0, hV, rfl, _, _⟩ := hW
  have hA : DataW.TrodAll enc Tryd.prog W 0 (fun _ => true) true Tryd.f5.params.toList args.toList ds p := hA0
  rw [Tryd.params5] at hA hval
  obtain ⟨v0, v1, d0, d1, p0, p1, rfl, rfl, rfl, h0, h1⟩ := trodAll_two hA
  obtain ⟨rfl, rfl⟩ := trodVars_none hV
  obtain ⟨a0, l0, c0, rfl⟩ := okWide_slice Tryd.underlying27 (hval 0 27 v0 rfl rfl)
  obtain ⟨a1, l1, c1, rfl⟩ := okWide_slice Tryd.underlying28 (hval 1 28 v1 rfl rfl)
  have h0k := h0
  have h1k := h1
  obtain ⟨fuel0, hf0⟩ := h0
  obtain ⟨fuel1, hf1⟩ := h1
  obtain ⟨A, ns, c, e0, hN⟩ := names_open hf0
  obtain ⟨A2, ts, c2, e1, hT⟩ := tags_open hf1
  simp only [Value.cells, List.cons.injEq, Value.slice.injEq, and_true] at e0 e1
  obtain ⟨rfl, rfl, rfl⟩ := e0
  obtain ⟨rfl, rfl, rfl⟩ := e1
  have hlt0 : ∀ x ∈ p0, x.block < W.heap.size := fun x hx => hW'.lt x (by simp [hx])
  have hlt1 : ∀ x ∈ p1, x.block < W.heap.size := fun x hx => hW'.lt x (by simp [hx])
  refine (best_law a0 a1 c0 c1 ns ts W hN hT).mono fun e W' ⟨he, hb⟩ => ?_
  subst he
  exact ⟨_, rfl, _, _, _, [], _, [], hW', trodAll_mk1 (shut_bool Tryd.underlying4 _), trodAll_mk2 (Below.trod Tryd.laidOut (by kernel_rfl) (of_decide_eq_true (by kernel_rfl)) h0k hb hlt0) (Below.trod Tryd.laidOut (by kernel_rfl) (of_decide_eq_true (by kernel_rfl)) h1k hb hlt1), rfl, hb.frame _, fun h => by cases h⟩

theorem holds_best : Rows.FnBestIsFirstLeastByRankThenHighestBuildSaid :=
  OpenClaim.holds_of_wide 5 Tryd.f5 rfl rfl rfl rfl rfl rfl rfl ⟨rfl, rfl, rfl, rfl, rfl⟩ rfl rfl rfl rfl rfl (by kernel_rfl) Tryd.func5 (by kernel_rfl)
    (of_decide_eq_true (by kernel_rfl)) (by unfold Func.isWrapper; first | (rw [if_pos (by decide +kernel)]; kernel_rfl) | (rw [if_neg (by decide +kernel)]; exact ⟨rfl, rfl⟩))
    (fun os started H enc _ => lifted_best os started H enc)

theorem card_best : Rows.FnBestIsFirstLeastByRankThenHighestBuildCardSaid :=
  Claim7.holds_tied_plain_at .later [] [.data, .pinned] true Rows.fnBestIsFirstLeastByRankThenHighestBuildCard.stood.harness true holds_best (fun _ h => by cases h) (by kernel_rfl) (fun _ h => by cases h) fnBestIsFirstLeastByRankThenHighestBuild_row_tie rfl ⟨rfl, rfl⟩ (by kernel_rfl) rfl
    (fun f fn hf hfn => by
      obtain rfl : f = 5 := Option.some.inj ((show Tryd.prog.funcNamed Rows.fnBestIsFirstLeastByRankThenHighestBuildRow.func = some 5 by kernel_rfl).symm.trans hf) |>.symm
      obtain rfl : fn = Tryd.f5 := (Option.some.inj (Tryd.func5.symm.trans hfn)).symm
      exact ⟨by kernel_rfl, fun j t ht => by
        rw [Tryd.params5] at ht
        have hm : t ∈ [27, 28] := by simpa using Array.mem_of_getElem? ht
        have hall : ([27, 28].all fun u => !Tryd.prog.wantsStandIn u) = true := by kernel_rfl
        exact (show Tryd.prog.wantsStandIn t = false by simpa using List.all_eq_true.1 hall t hm)⟩)
    (by kernel_rfl)
end Go.Proofs.Qxb6601124aDoor
