/-
  The walk of 'zzBytes_..': true only where all is small.
-/
import Derived.Test.Qxb6601124aDoorFits
namespace Go.Proofs.Qxb6601124aDoor
open Go.RowKit Go.Shelf
set_option linter.unusedVariables false

/-- What a true answer says. -/
structure Small (ns : List Nm) (ts : List T) : Prop where
  n : ns.length ≤ 1048576
  t : ts.length ≤ 1048576
  each : ∀ m ∈ ns, m.bu.size ≤ 1048576 ∧ m.tags.length ≤ 1048576

set_option maxRecDepth 100000 in
set_option maxHeartbeats 2000000 in
theorem bytes16_any (A A2 : Option Addr) (c c2 : Nat) (ns : List Nm) (ts : List T) (w : World) (hX : NamesAt w A ns) (hY : TagsAt w A2 ts) :
    Calls Tryd.prog 16 #[.slice A ns.length c, .slice A2 ts.length c2] w fun e w' => (∃ y, e = .returned (.bool y) ∧ (y = true → Small ns ts)) ∧ w' = w := by
  have HX := hid_mk hX
  have HY := hid_mk hY
  clear hX hY
  by_cases hn : 1048576 < ns.length
  · go_enter Tryd.func16, Tryd.ntmps16
    go_wp2_with fail
    go_ret
    exact ⟨⟨false, rfl, fun h => by cases h⟩, rfl⟩
  go_enter Tryd.func16, Tryd.ntmps16
  go_wp2_with fail
  go_loopg [5, 6] ns.length (fun gf x5 x wr => ∃ (k tot : Nat), k + gf = ns.length ∧ x = .int .i64 k ∧ x5 = .int .i64 (tot : Int) ∧ tot ≤ 1048576 ∧ Hid (∀ i m, i < k → ns[i]? = some m → m.bu.size ≤ 1048576 ∧ m.tags.length ≤ 1048576) ∧ wr = w)
  case atStart => exact ⟨0, ns.length, by omega, rfl, rfl, by omega, hid_mk (fun i m h => by omega), rfl⟩
  case round =>
    obtain ⟨k, tot, hkg, rfl, rfl, htot, HS, rfl⟩ := hrel
    by_cases hk : k < ns.length
    · obtain ⟨g', rfl⟩ : ∃ g', gk = g' + 1 := ⟨gk - 1, by omega⟩
      obtain ⟨n, hnk⟩ : ∃ n, ns[k]? = some n := ⟨_, List.getElem?_eq_getElem hk⟩
      obtain ⟨b, o, A3, c3, rfl, hlt, a0, a1, a2, a3, ht⟩ := HX.out k n hnk
      have ix : (0 : Int) ≤ (k : Int) ∧ (k : Int) < (ns.length : Int) := by omega
      have HNK := hid_mk hnk
      have HTG := hid_mk ht
      clear hnk ht
      go_wp2_with fail
      all_goals (try (go_ret; exact ⟨⟨false, rfl, fun h => by cases h⟩, rfl⟩))
      have htl : n.tags.length ≤ 1048576 := by omega
      have HN : Hid (∀ i m, i < k + 1 → ns[i]? = some m → m.bu.size ≤ 1048576 ∧ m.tags.length ≤ 1048576) := hid_mk (fun i m hi hm => by
        by_cases e : i = k
        · rw [e, HNK.out] at hm
          obtain rfl := Option.some.inj hm
          omega
        · exact HS.out i m (by omega) hm)
      clear HS
      go_loopg [5, 7] n.tags.length (fun gf x5 x wq => ∃ (j t2 : Nat), j + gf = n.tags.length ∧ x = .int .i64 j ∧ x5 = .int .i64 (t2 : Int) ∧ t2 ≤ 1048576 ∧ wq = wr)
      case atStart => exact ⟨0, tot + n.pr.size + n.ve.size + n.bu.size + n.tags.length, by omega, rfl, by go_num, by omega, rfl⟩
      case round =>
        obtain ⟨j, t2, hjg, rfl, rfl, ht2, rfl⟩ := hrel
        by_cases hj : j < n.tags.length
        · obtain ⟨g3, rfl⟩ : ∃ g3, gk = g3 + 1 := ⟨gk - 1, by omega⟩
          obtain ⟨t, ht⟩ : ∃ t, n.tags[j]? = some t := ⟨_, List.getElem?_eq_getElem hj⟩
          obtain ⟨b2, o2, rfl, hlt2, d0, d1, d2⟩ := HTG.out j t ht
          have ixj : (0 : Int) ≤ (j : Int) ∧ (j : Int) < (n.tags.length : Int) := by omega
          clear ht
          go_wp2_with fail
          all_goals (try (go_ret; exact ⟨⟨false, rfl, fun h => by cases h⟩, rfl⟩))
          go_roundg g3
          case measure => omega
          case rel => exact ⟨j + 1, t2 + t.p.size + t.a.size + t.l.size, by omega, by go_num, by go_num, by omega, rfl⟩
        · go_wp2_with fail
          go_roundg g'
          case measure => omega
          case rel => exact ⟨k + 1, t2, by omega, by go_num, rfl, ht2, HN, rfl⟩
    · go_wp2_with fail
      all_goals (try (go_ret; exact ⟨⟨false, rfl, fun h => by cases h⟩, rfl⟩))
      have htl : ts.length ≤ 1048576 := by omega
      have HN : Hid (Small ns ts) := hid_mk ⟨by omega, htl, fun m hm => by
        obtain ⟨i, hi, hi2⟩ := List.getElem_of_mem hm
        exact HS.out i m (by omega) (by rw [List.getElem?_eq_getElem hi, hi2])⟩
      clear HS
      go_loopg [5, 8] ts.length (fun gf x5 x wq => ∃ (j t2 : Nat), j + gf = ts.length ∧ x = .int .i64 j ∧ x5 = .int .i64 (t2 : Int) ∧ t2 ≤ 1048576 ∧ wq = wr)
      case atStart => exact ⟨0, tot + ts.length, by omega, rfl, by go_num, by omega, rfl⟩
      case round =>
        obtain ⟨j, t2, hjg, rfl, rfl, ht2, rfl⟩ := hrel
        by_cases hj : j < ts.length
        · obtain ⟨g3, rfl⟩ : ∃ g3, gk = g3 + 1 := ⟨gk - 1, by omega⟩
          obtain ⟨t, ht⟩ : ∃ t, ts[j]? = some t := ⟨_, List.getElem?_eq_getElem hj⟩
          obtain ⟨b2, o2, rfl, hlt2, d0, d1, d2⟩ := HY.out j t ht
          have ixj : (0 : Int) ≤ (j : Int) ∧ (j : Int) < (ts.length : Int) := by omega
          clear ht
          go_wp2_with fail
          all_goals (try (go_ret; exact ⟨⟨false, rfl, fun h => by cases h⟩, rfl⟩))
          go_roundg g3
          case measure => omega
          case rel => exact ⟨j + 1, t2 + t.p.size + t.a.size + t.l.size, by omega, by go_num, by go_num, by omega, rfl⟩
        · go_wp2_with fail
          go_ret
          exact ⟨⟨true, rfl, fun _ => HN.out⟩, rfl⟩
end Go.Proofs.Qxb6601124aDoor
