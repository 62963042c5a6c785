/-
  The walks of 'zzAdd', 'zzAddTag', 'zzBestFits': they hand back some bool.
-/
import Derived.Test.Qxb6601124aDoorBest
namespace Go.Proofs.Qxb6601124aDoor
open Go.RowKit Go.Shelf
set_option linter.unusedVariables false

set_option maxRecDepth 100000 in
set_option maxHeartbeats 1000000 in
theorem add_any (a b : Int) (w : World) : Calls Tryd.prog 38 #[.int .i64 a, .int .i64 b] w fun e w' => (∃ x y, e = .returned (.tuple #[.int .i64 x, .bool y])) ∧ w' = w := by
  go_enter Tryd.func38, Tryd.ntmps38
  go_wp2_with fail
  all_goals
    refine ⟨rfl, ?_⟩
    apply Exists.intro
    constructor
    · simp [results, Tryd.results38, go_sem]; rfl
    · exact ⟨⟨_, _, rfl⟩, rfl⟩

set_option maxRecDepth 100000 in
set_option maxHeartbeats 1000000 in
theorem addTag_any (a : Int) (t : T) (w : World) : Calls Tryd.prog 37 #[.int .i64 a, tv t] w fun e w' => (∃ x y, e = .returned (.tuple #[.int .i64 x, .bool y])) ∧ Below w.heap.size w w' := by
  have HA := hid_mk add_any
  unfold tv
  go_enter Tryd.func37, Tryd.ntmps37
  go_wp2_with (go_at_call 38; refine (HA.out _ _ _).mono ?_; rintro e w1 ⟨⟨x, y, rfl⟩, hw⟩; obtain rfl := hw.symm; cases y)
  all_goals
    refine ⟨rfl, ?_⟩
    apply Exists.intro
    constructor
    · simp [results, Tryd.results37, go_sem]; rfl
    · exact ⟨⟨_, _, rfl⟩, (Below.refl _ _).alloc (Nat.le_refl _) _⟩

set_option maxRecDepth 100000 in
set_option maxHeartbeats 2000000 in
theorem fits_any (A A2 : Option Addr) (c c2 : Nat) (ns : List Nm) (ts : List T) (w : World) (hn : ns.length ≤ 1048576) (hts : ts.length ≤ 1048576) (htl : ∀ n ∈ ns, n.tags.length ≤ 1048576) (hX : NamesAt w A ns) (hY : TagsAt w A2 ts) :
    Calls Tryd.prog 17 #[.slice A ns.length c, .slice A2 ts.length c2] w fun e w' => (∃ y, e = .returned (.bool y)) ∧ Below w.heap.size w w' := by
  have H38 := hid_mk add_any
  have H37 := hid_mk addTag_any
  have HX := hid_mk hX
  have HY := hid_mk hY
  have HTL := hid_mk htl
  clear hX hY htl
  by_cases h1 : 4096 < ns.length
  · go_enter Tryd.func17, Tryd.ntmps17
    go_wp2_with fail
    go_ret
    exact ⟨⟨_, rfl⟩, Below.refl _ _⟩
  by_cases h2 : 65536 < ts.length
  · go_enter Tryd.func17, Tryd.ntmps17
    go_wp2_with fail
    go_ret
    exact ⟨⟨_, rfl⟩, Below.refl _ _⟩
  go_enter Tryd.func17, Tryd.ntmps17
  go_wp2_with fail
  go_loopg [5, 7] ts.length (fun gf x5 x wr => ∃ (k : Nat) (z : Int), k + gf = ts.length ∧ x = .int .i64 k ∧ x5 = .int .i64 z ∧ Below w.heap.size w wr)
  case atStart => exact ⟨0, 0, by omega, rfl, rfl, Below.refl _ _⟩
  case round =>
    obtain ⟨k, z, hkg, rfl, rfl, hbel⟩ := hrel
    by_cases hk : k < ts.length
    · obtain ⟨g', rfl⟩ : ∃ g', gk = g' + 1 := ⟨gk - 1, by omega⟩
      obtain ⟨t, ht⟩ : ∃ t, ts[k]? = some t := ⟨_, List.getElem?_eq_getElem hk⟩
      obtain ⟨b, o, rfl, hlt, a0, a1, a2⟩ := HY.out.below hbel k t ht
      have ix : (0 : Int) ≤ (k : Int) ∧ (k : Int) < (ts.length : Int) := by omega
      clear ht
      go_wp2_with (go_at_call 37; refine (H37.out _ t _).mono ?_; rintro e w1 ⟨⟨x, y, rfl⟩, hb1⟩; cases y)
      · go_ret
        exact ⟨⟨_, rfl⟩, hbel.trans (hb1.mono hbel.size)⟩
      · go_roundg g'
        case measure => omega
        case rel => exact ⟨k + 1, _, by omega, by go_num, rfl, hbel.trans (hb1.mono hbel.size)⟩
    · go_wp2_with fail
      clear hk hkg
      go_loopg [5, 8] ns.length (fun gf x5 x wr => ∃ (k : Nat) (z : Int), k + gf = ns.length ∧ x = .int .i64 k ∧ x5 = .int .i64 z ∧ Below w.heap.size w wr)
      case atStart => exact ⟨0, _, by omega, rfl, rfl, hbel⟩
      case round =>
        clear hbel
        obtain ⟨k, z, hkg, rfl, rfl, hbel⟩ := hrel
        by_cases hk : k < ns.length
        · obtain ⟨g2, rfl⟩ : ∃ g2, gk = g2 + 1 := ⟨gk - 1, by omega⟩
          obtain ⟨n, hnk⟩ : ∃ n, ns[k]? = some n := ⟨_, List.getElem?_eq_getElem hk⟩
          obtain ⟨b, o, A3, c3, rfl, hlt, a0, a1, a2, a3, ht⟩ := HX.out.below hbel k n hnk
          have ix : (0 : Int) ≤ (k : Int) ∧ (k : Int) < (ns.length : Int) := by omega
          have hlen := HTL.out n (List.mem_of_getElem? hnk)
          have HTG := hid_mk ht
          clear hnk ht
          have hall : ∀ ob, Below w.heap.size w (wr.alloc ob) := fun ob => hbel.alloc hbel.size ob
          have HTA : Hid (∀ ob, TagsAt (wr.alloc ob) A3 n.tags) := hid_mk (fun ob => HTG.out.below ((Below.refl wr.heap.size wr).alloc (Nat.le_refl _) ob))
          have HAL := hid_mk hall
          clear hall
          go_wp2_with (go_at_call 38; refine (H38.out _ _ _).mono ?_; rintro e w1 ⟨⟨x, y, rfl⟩, hw⟩; obtain rfl := hw.symm; cases y)
          · go_ret
            exact ⟨⟨_, rfl⟩, HAL.out _⟩
          · go_ret
            exact ⟨⟨_, rfl⟩, HAL.out _⟩
          · go_ret
            exact ⟨⟨_, rfl⟩, HAL.out _⟩
          · go_ret
            exact ⟨⟨_, rfl⟩, HAL.out _⟩
          · obtain ⟨W1, hW1⟩ : ∃ W1, wr.alloc (Obj.cells #[Value.string n.pr, Value.string n.ve, Value.string n.bu, Value.slice A3 n.tags.length c3] 58) = W1 := ⟨_, rfl⟩
            have HTW : Hid (TagsAt W1 A3 n.tags) := hid_mk (by rw [← hW1]; exact HTA.out _)
            have HBW : Hid (Below w.heap.size w W1) := hid_mk (by rw [← hW1]; exact HAL.out _)
            have HCW : Hid (W1.cell? ⟨wr.heap.size, 3, none⟩ = some (.slice A3 n.tags.length c3)) := hid_mk (by subst hW1; go_simp)
            have hszW : wr.heap.size < W1.heap.size := by rw [← hW1, World.size_alloc]; omega
            rw [hW1]
            clear hW1 a0 a1 a2 a3 hbel HTG HTA HAL hlt
            generalize wr.heap.size = B at *
            go_loopg [5, 10] n.tags.length (fun gf x5 x wq => ∃ (j : Nat) (z : Int), j + gf = n.tags.length ∧ x = .int .i64 j ∧ x5 = .int .i64 z ∧ Below W1.heap.size W1 wq)
            case atStart => exact ⟨0, _, by omega, rfl, rfl, Below.refl _ _⟩
            case round =>
              obtain ⟨j, z2, hjg, rfl, rfl, hbel⟩ := hrel
              have hbw : Below w.heap.size w wr := HBW.out.trans (hbel.mono HBW.out.size)
              have hc3 : wr.cell? ⟨B, 3, none⟩ = some (.slice A3 n.tags.length c3) := (hbel.cell hszW).trans HCW.out
              by_cases hj : j < n.tags.length
              · obtain ⟨g3, rfl⟩ : ∃ g3, gk = g3 + 1 := ⟨gk - 1, by omega⟩
                obtain ⟨t, ht⟩ : ∃ t, n.tags[j]? = some t := ⟨_, List.getElem?_eq_getElem hj⟩
                obtain ⟨b2, o2, rfl, hlt2, a0, a1, a2⟩ := HTW.out.below hbel j t ht
                have ixj : (0 : Int) ≤ (j : Int) ∧ (j : Int) < (n.tags.length : Int) := by omega
                clear ht
                go_wp2_with (go_at_call 37; refine (H37.out _ t _).mono ?_; rintro e w1 ⟨⟨x, y, rfl⟩, hb1⟩; cases y)
                · go_ret
                  exact ⟨⟨_, rfl⟩, hbw.trans (hb1.mono hbw.size)⟩
                · go_roundg g3
                  case measure => omega
                  case rel => exact ⟨j + 1, _, by omega, by go_num, rfl, hbel.trans (hb1.mono hbel.size)⟩
              · go_wp2_with fail
                go_roundg g2
                case measure => omega
                case rel => exact ⟨k + 1, _, by omega, by go_num, rfl, hbw⟩
        · go_wp2_with fail
          go_ret
          exact ⟨⟨_, rfl⟩, hbel⟩
end Go.Proofs.Qxb6601124aDoor
