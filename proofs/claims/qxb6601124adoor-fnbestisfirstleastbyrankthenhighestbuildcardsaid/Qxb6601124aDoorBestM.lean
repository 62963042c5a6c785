/-
  The walk of 'zzBestModel'.
-/
import Derived.Test.Qxb6601124aDoorBelowQ
import Derived.Test.Qxb6601124aDoorTopA
namespace Go.Proofs.Qxb6601124aDoor
open Go.RowKit Go.Shelf
set_option linter.unusedVariables false

theorem Tryd.info3 : (Tryd.prog.info? 3).map (fun i => (i.zero, i.size, i.bytes)) = some (some (.int .i64 0), 1, 8) := by kernel_rfl

/-- The ranks behind k rounds. -/
def rankF (ns : List Nm) (ts : List T) (k i : Nat) : Value := if i < k then .int .i64 (rk ns ts i : Int) else .int .i64 0
theorem rankF_next (ns : List Nm) (ts : List T) (k i : Nat) : (if i = k then Value.int .i64 (rk ns ts k : Int) else rankF ns ts k i) = rankF ns ts (k + 1) i := by
  unfold rankF
  by_cases h : i = k
  · subst h; rw [if_pos rfl, if_pos (by omega)]
  · rw [if_neg h]
    by_cases h2 : i < k
    · rw [if_pos h2, if_pos (by omega)]
    · rw [if_neg h2, if_neg (by omega)]

/-- Some wheel among the first j beats wheel i. -/
def Bt (ns : List Nm) (ts : List T) (i j : Nat) : Prop := ∃ j', j' < j ∧ j' ≠ i ∧ rk ns ts j' ≠ ts.length ∧ Pl.Beats (rk ns ts) (bd ns) j' i
theorem Bt_zero (ns : List Nm) (ts : List T) (i : Nat) : ¬ Bt ns ts i 0 := fun ⟨_, h, _⟩ => by omega
theorem Bt_no {ns : List Nm} {ts : List T} {i j : Nat} (h : ¬ Bt ns ts i j) (hj : ¬ (j ≠ i ∧ rk ns ts j ≠ ts.length ∧ Pl.Beats (rk ns ts) (bd ns) j i)) : ¬ Bt ns ts i (j + 1) := fun ⟨j', h1, h2⟩ => by
  by_cases e : j' = j
  · rw [e] at h2; exact hj h2
  · exact h ⟨j', by omega, h2⟩
theorem Bt_yes {ns : List Nm} {ts : List T} {i j : Nat} (hj : j ≠ i ∧ rk ns ts j ≠ ts.length ∧ Pl.Beats (rk ns ts) (bd ns) j i) : Bt ns ts i (j + 1) := ⟨j, by omega, hj⟩
theorem not_unb {ns : List Nm} {ts : List T} {i j : Nat} (hj : j ≤ ns.length) (h : Bt ns ts i j) : ¬ Pl.Unb (rk ns ts) (bd ns) ts.length ns.length i := fun hu => by
  obtain ⟨j', h1, h2, h3, h4⟩ := h
  exact hu j' (by omega) h2 h3 h4
theorem unb_of {ns : List Nm} {ts : List T} {i : Nat} (h : ¬ Bt ns ts i ns.length) : Pl.Unb (rk ns ts) (bd ns) ts.length ns.length i := fun j h1 h2 h3 h4 => h ⟨j, h1, h2, h3, h4⟩

def ansI : Option Nat → Int
  | some b => b
  | none => -1

set_option maxRecDepth 100000 in
set_option maxHeartbeats 4000000 in
theorem bestModel_any (A A2 : Option Addr) (c c2 : Nat) (ns : List Nm) (ts : List T) (w : World) (hn : ns.length ≤ 1048576) (hts : ts.length ≤ 1048576) (htl : ∀ n ∈ ns, n.tags.length ≤ 1048576) (hbu : ∀ n ∈ ns, n.bu.size ≤ 1048576)
    (hX : NamesAt w A ns) (hY : TagsAt w A2 ts) :
    Calls Tryd.prog 21 #[.slice A ns.length c, .slice A2 ts.length c2] w fun e w' => e = .returned (.int .i64 (ansI (Pl.bestTo (rk ns ts) (bd ns) ts.length ns.length))) ∧ Below w.heap.size w w' := by
  have hmk := run_make_row' (P := Tryd.prog) 65 3 (.int .i64 0) 8 Tryd.underlying65 Tryd.info3 rfl .i64 .i64 ns.length (by omega) (by omega)
  have HX := hid_mk hX
  have HY := hid_mk hY
  have HTL := hid_mk htl
  have HBU := hid_mk hbu
  clear hX hY htl hbu
  go_enter Tryd.func21, Tryd.ntmps21
  go_wp2_with fail
  go_loopg [7] ns.length (fun gf x wr => ∃ k : Nat, k + gf = ns.length ∧ x = .int .i64 k ∧ wr.rowIs w.heap.size 3 ns.length (rankF ns ts k) ∧ Below w.heap.size w wr)
  case atStart => exact ⟨0, by omega, rfl, (World.rowIs_made w (.int .i64 0) ns.length 3).congr (fun i hi => by simp [rankF]), (Below.refl _ _).alloc (Nat.le_refl _) _⟩
  case round =>
    obtain ⟨k, hkg, rfl, hrow, hbel⟩ := hrel
    by_cases hk : k < ns.length
    · obtain ⟨g', rfl⟩ : ∃ g', gk = g' + 1 := ⟨gk - 1, by omega⟩
      obtain ⟨n, hnk⟩ : ∃ n, ns[k]? = some n := ⟨_, List.getElem?_eq_getElem hk⟩
      obtain ⟨b, o, A3, c3, rfl, hlt, a0, a1, a2, a3, ht⟩ := HX.out.below hbel k n hnk
      have H39 := hid_mk (rank_any A3 A2 c3 c2 n.tags ts wr (HTL.out n (List.mem_of_getElem? hnk)) hts ht (HY.out.below hbel))
      rw [← rk_at (ts := ts) hnk] at H39
      have ix : (0 : Int) ≤ (k : Int) ∧ (k : Int) < (ns.length : Int) := by omega
      have r0 := hrow.cell hk
      have f0 := hrow.frozen k
      clear hnk ht
      go_wp2_with (go_at_call 39; refine H39.out.mono ?_; rintro e w1 ⟨rfl, N, rfl⟩)
      go_roundg g'
      case measure => omega
      case rel => exact ⟨k + 1, by omega, by go_num, (hrow.set k _).congr (fun i hi => rankF_next ns ts k i), bdrew (hbel.setCell (p := ⟨w.heap.size, k, none⟩) (Nat.le_refl _) _) N⟩
    · have hk2 : k = ns.length := by omega
      rw [hk2] at hrow
      clear hkg hk2
      go_wp2_with fail
      clear hk
      go_loopg [8, 9, 10, 11] ns.length (fun gf x y z u wq => ∃ i : Nat, i + gf = ns.length ∧ x = .int .i64 i ∧ Hid (∀ i', i' < i → rk ns ts i' ≠ ts.length → ¬ Pl.Unb (rk ns ts) (bd ns) ts.length ns.length i') ∧ wq.rowIs w.heap.size 3 ns.length (rankF ns ts ns.length) ∧ Below w.heap.size w wq)
      case atStart => exact ⟨0, by omega, rfl, hid_mk (fun i' h => by omega), hrow, hbel⟩
      case round =>
        clear hrow hbel
        obtain ⟨i, hig, rfl, HI, hrow, hbel⟩ := hrel
        by_cases hi : i < ns.length
        · obtain ⟨g2, rfl⟩ : ∃ g2, gk = g2 + 1 := ⟨gk - 1, by omega⟩
          have ixi : (0 : Int) ≤ (i : Int) ∧ (i : Int) < (ns.length : Int) := by omega
          have ri : wr.cell? ⟨w.heap.size, i, none⟩ = some (.int .i64 (rk ns ts i : Int)) := by rw [hrow.cell hi]; unfold rankF; rw [if_pos hi]
          have hrl := rk_le ns ts i
          by_cases hL : rk ns ts i = ts.length
          · have HN : Hid (∀ i', i' < i + 1 → rk ns ts i' ≠ ts.length → ¬ Pl.Unb (rk ns ts) (bd ns) ts.length ns.length i') := hid_mk (fun i' h' hr => by
              by_cases e : i' = i
              · rw [e] at hr; exact absurd hL hr
              · exact HI.out i' (by omega) hr)
            have hL2 : ((rk ns ts i : Int) == (ts.length : Int)) = true := by rw [hL]; simp
            clear hL
            go_wp2_with fail
            go_roundg g2
            case measure => omega
            case rel => exact ⟨i + 1, by omega, by go_num, HN, hrow, hbel⟩
          · have hL2 : ((rk ns ts i : Int) == (ts.length : Int)) = false := by rw [beq_eq_false_iff_ne]; omega
            have HLi := hid_mk hL
            clear hL
            go_wp2_with fail
            go_loopg [9, 10, 11] ns.length (fun gf y z u wq => ∃ (j : Nat) (bt : Bool), j + gf = ns.length ∧ y = .bool bt ∧ z = .int .i64 j ∧ Hid (bt = true ↔ Bt ns ts i j) ∧ wq.rowIs w.heap.size 3 ns.length (rankF ns ts ns.length) ∧ Below w.heap.size w wq)
            case atStart => exact ⟨0, false, by omega, rfl, rfl, hid_mk ⟨fun h => (by cases h), fun h => absurd h (Bt_zero ns ts i)⟩, hrow, hbel⟩
            case round =>
              clear hrow hbel ri
              obtain ⟨j, bt, hjg, rfl, rfl, HB, hrow, hbel⟩ := hrel
              cases bt with
              | true =>
                have HN : Hid (∀ i', i' < i + 1 → rk ns ts i' ≠ ts.length → ¬ Pl.Unb (rk ns ts) (bd ns) ts.length ns.length i') := hid_mk (fun i' h' hr => by
                  by_cases e : i' = i
                  · rw [e]; exact not_unb (j := j) (by omega) (HB.out.1 rfl)
                  · exact HI.out i' (by omega) hr)
                clear HI HB
                by_cases hj : j < ns.length
                · go_wp2_with fail
                  go_roundg g2
                  case measure => omega
                  case rel => exact ⟨i + 1, by omega, by go_num, HN, hrow, hbel⟩
                · go_wp2_with fail
                  go_roundg g2
                  case measure => omega
                  case rel => exact ⟨i + 1, by omega, by go_num, HN, hrow, hbel⟩
              | false =>
                by_cases hj : j < ns.length
                · obtain ⟨g3, rfl⟩ : ∃ g3, gk = g3 + 1 := ⟨gk - 1, by omega⟩
                  have ixj : (0 : Int) ≤ (j : Int) ∧ (j : Int) < (ns.length : Int) := by omega
                  have ri : wr.cell? ⟨w.heap.size, i, none⟩ = some (.int .i64 (rk ns ts i : Int)) := by rw [hrow.cell hi]; unfold rankF; rw [if_pos hi]
                  have rj : wr.cell? ⟨w.heap.size, j, none⟩ = some (.int .i64 (rk ns ts j : Int)) := by rw [hrow.cell hj]; unfold rankF; rw [if_pos hj]
                  have hlj := rk_le ns ts j
                  have HNB : Hid (¬ Bt ns ts i j) := hid_mk (fun h => Bool.noConfusion (HB.out.2 h))
                  clear HB
                  by_cases hji : j = i
                  · have HN : Hid (false = true ↔ Bt ns ts i (j + 1)) := hid_mk ⟨fun h => (by cases h), fun h => absurd h (Bt_no HNB.out (fun h => h.1 hji))⟩
                    have e : ((j : Int) == (i : Int)) = true := by rw [hji]; simp
                    clear hji HNB
                    go_wp2_with fail
                    go_roundg g3
                    case measure => omega
                    case rel => exact ⟨j + 1, false, by omega, rfl, by go_num, HN, hrow, hbel⟩
                  · have e : ((j : Int) == (i : Int)) = false := by rw [beq_eq_false_iff_ne]; omega
                    have HJI := hid_mk hji
                    clear hji
                    by_cases hrL : rk ns ts j = ts.length
                    · have HN : Hid (false = true ↔ Bt ns ts i (j + 1)) := hid_mk ⟨fun h => (by cases h), fun h => absurd h (Bt_no HNB.out (fun h => h.2.1 hrL))⟩
                      have e2 : ((rk ns ts j : Int) == (ts.length : Int)) = true := by rw [hrL]; simp
                      clear hrL HNB
                      go_wp2_with fail
                      go_roundg g3
                      case measure => omega
                      case rel => exact ⟨j + 1, false, by omega, rfl, by go_num, HN, hrow, hbel⟩
                    · have e2 : ((rk ns ts j : Int) == (ts.length : Int)) = false := by rw [beq_eq_false_iff_ne]; omega
                      have HRL := hid_mk hrL
                      clear hrL
                      by_cases hlt : rk ns ts j < rk ns ts i
                      · have HN : Hid (Bt ns ts i (j + 1)) := hid_mk (Bt_yes ⟨HJI.out, HRL.out, Or.inl hlt⟩)
                        clear HNB
                        go_wp2_with fail
                        go_quiet (fail)
                        go_wp2_with fail
                        go_roundg g3
                        case measure => omega
                        case rel => exact ⟨j + 1, true, by omega, rfl, by go_num, hid_mk ⟨fun _ => HN.out, fun _ => rfl⟩, hrow, bdrew hbel _⟩
                      · by_cases hq : rk ns ts j = rk ns ts i
                        · have e3 : ((rk ns ts j : Int) == (rk ns ts i : Int)) = true := by rw [hq]; simp
                          have HQ := hid_mk hq
                          clear hq
                          obtain ⟨nj, hnj⟩ : ∃ n, ns[j]? = some n := ⟨_, List.getElem?_eq_getElem hj⟩
                          obtain ⟨ni, hni⟩ : ∃ n, ns[i]? = some n := ⟨_, List.getElem?_eq_getElem hi⟩
                          obtain ⟨b, o, A3, c3, rfl, hltb, -, -, pj, -, -⟩ := HX.out.below hbel j nj hnj
                          obtain ⟨b', o', A4, c4, e4, -, -, -, pi, -, -⟩ := HX.out.below hbel i ni hni
                          obtain ⟨rfl, rfl⟩ : b = b' ∧ o = o' := by
                            have := Option.some.inj e4
                            exact ⟨congrArg Addr.block this, congrArg Addr.off this⟩
                          obtain ⟨C, hC⟩ : ∃ C, Pl.cb nj.bu.data.toList ni.bu.data.toList = C := ⟨_, rfl⟩
                          have H10 : Hid (∀ W, Calls Tryd.prog 10 #[.string nj.bu, .string ni.bu] W fun e w' => e = .returned (.int .i64 C) ∧ Below W.heap.size W w') := hid_mk (fun W => by
                            rw [← hC]
                            exact zz_any _ _ W (HBU.out nj (List.mem_of_getElem? hnj)) (HBU.out ni (List.mem_of_getElem? hni)))
                          have HC : Hid (Pl.cb (bd ns j) (bd ns i) = C) := hid_mk (by rw [bd_at hnj, bd_at hni, hC])
                          clear hC hnj hni e4
                          go_wp2_with fail
                          go_quiet (fail)
                          go_wp2_with fail
                          obtain ⟨w1, hw1⟩ : ∃ w1, wr.drewN nq = w1 := ⟨_, rfl⟩
                          rw [hw1]
                          have ri1 : w1.cell? ⟨w.heap.size, i, none⟩ = some (.int .i64 (rk ns ts i : Int)) := by rw [← hw1]; exact ri
                          have rj1 : w1.cell? ⟨w.heap.size, j, none⟩ = some (.int .i64 (rk ns ts j : Int)) := by rw [← hw1]; exact rj
                          have pj1 : w1.cell? ⟨b, o + j * 4 + 2, none⟩ = some (.string nj.bu) := by rw [← hw1]; exact pj
                          have pi1 : w1.cell? ⟨b, o + i * 4 + 2, none⟩ = some (.string ni.bu) := by rw [← hw1]; exact pi
                          have hb1 : Below w.heap.size w w1 := by rw [← hw1]; exact bdrew hbel _
                          have hrow1 : w1.rowIs w.heap.size 3 ns.length (rankF ns ts ns.length) := by rw [← hw1]; exact hrow
                          have hltb1 : b < w1.heap.size := by rw [← hw1]; exact hltb
                          clear hw1 ri rj pj pi hbel hrow hltb
                          go_quiet (fail)
                          go_wp2_with fail
                          obtain ⟨w2, hw2⟩ : ∃ w2, w1.drewN nq = w2 := ⟨_, rfl⟩
                          rw [hw2]
                          have q1 : ∀ p : InB w2, p.val.cell? ⟨b, o + j * 4 + 2, none⟩ = some (.string nj.bu) := by rw [← hw2]; exact fun p => p.cell hltb1 pj1
                          have q2 : ∀ p : InB w2, p.val.cell? ⟨b, o + i * 4 + 2, none⟩ = some (.string ni.bu) := by rw [← hw2]; exact fun p => p.cell hltb1 pi1
                          have hb2 : Below w.heap.size w w2 := by rw [← hw2]; exact bdrew hb1 _
                          have hrow2 : w2.rowIs w.heap.size 3 ns.length (rankF ns ts ns.length) := by rw [← hw2]; exact hrow1
                          clear hw2 ri1 rj1 pj1 pi1 hb1 hrow1 hltb1
                          refine wp_region_below (by kernel_rfl) (by kernel_rfl) ?_
                          repeat (quiet_step ((go_at_call 10; exact Calls.inB_of (H10.out _))))
                          refine wpQuiet_nil ?_
                          rintro w3 ⟨p, hp⟩
                          have hb3 : Below w2.heap.size w2 w3 := by rw [hp]; exact p.ok
                          clear hp
                          have hb4 : Below w.heap.size w w3 := hb2.trans (hb3.mono hb2.size)
                          have hrow4 : w3.rowIs w.heap.size 3 ns.length (rankF ns ts ns.length) := hrow2.of_block (hb3.block _ hrow2.lt)
                          clear q1 q2 hb2 hrow2 hb3
                          have hCQ := HC.out
                          by_cases hpos : 0 < C
                          · have HN : Hid (Bt ns ts i (j + 1)) := hid_mk (Bt_yes ⟨HJI.out, HRL.out, Or.inr ⟨HQ.out, Or.inl (by rw [hCQ]; exact hpos)⟩⟩)
                            clear hCQ HNB
                            go_wp2_with fail
                            go_roundg g3
                            case measure => omega
                            case rel => exact ⟨j + 1, true, by omega, rfl, by go_num, hid_mk ⟨fun _ => HN.out, fun _ => rfl⟩, hrow4, hb4⟩
                          · by_cases hz : C = 0
                            · have ez : (C == 0) = true := by rw [hz]; rfl
                              by_cases hjl : j < i
                              · have HN : Hid (Bt ns ts i (j + 1)) := hid_mk (Bt_yes ⟨HJI.out, HRL.out, Or.inr ⟨HQ.out, Or.inr ⟨by rw [hCQ]; exact hz, hjl⟩⟩⟩)
                                clear hCQ HNB hz
                                go_wp2_with fail
                                go_roundg g3
                                case measure => omega
                                case rel => exact ⟨j + 1, true, by omega, rfl, by go_num, hid_mk ⟨fun _ => HN.out, fun _ => rfl⟩, hrow4, hb4⟩
                              · have HN : Hid (false = true ↔ Bt ns ts i (j + 1)) := hid_mk ⟨fun h => (by cases h), fun h => absurd h (Bt_no HNB.out (fun h => (by
                                  have h1 := h.2.2
                                  have h2 := HQ.out
                                  unfold Pl.Beats at h1
                                  rw [hCQ] at h1
                                  omega)))⟩
                                clear hCQ HNB hz
                                go_wp2_with fail
                                go_roundg g3
                                case measure => omega
                                case rel => exact ⟨j + 1, false, by omega, rfl, by go_num, HN, hrow4, hb4⟩
                            · have ez : (C == 0) = false := by rw [beq_eq_false_iff_ne]; exact hz
                              have HN : Hid (false = true ↔ Bt ns ts i (j + 1)) := hid_mk ⟨fun h => (by cases h), fun h => absurd h (Bt_no HNB.out (fun h => (by
                                have h1 := h.2.2
                                have h2 := HQ.out
                                unfold Pl.Beats at h1
                                rw [hCQ] at h1
                                omega)))⟩
                              clear hCQ HNB hz
                              go_wp2_with fail
                              go_roundg g3
                              case measure => omega
                              case rel => exact ⟨j + 1, false, by omega, rfl, by go_num, HN, hrow4, hb4⟩
                        · have e3 : ((rk ns ts j : Int) == (rk ns ts i : Int)) = false := by rw [beq_eq_false_iff_ne]; omega
                          have HN : Hid (false = true ↔ Bt ns ts i (j + 1)) := hid_mk ⟨fun h => (by cases h), fun h => absurd h (Bt_no HNB.out (fun h => (by
                            have := h.2.2
                            unfold Pl.Beats at this
                            omega)))⟩
                          clear HNB hq
                          go_wp2_with fail
                          go_quiet (fail)
                          go_wp2_with fail
                          obtain ⟨w1, hw1⟩ : ∃ w1, wr.drewN nq = w1 := ⟨_, rfl⟩
                          rw [hw1]
                          have ri1 : w1.cell? ⟨w.heap.size, i, none⟩ = some (.int .i64 (rk ns ts i : Int)) := by rw [← hw1]; exact ri
                          have rj1 : w1.cell? ⟨w.heap.size, j, none⟩ = some (.int .i64 (rk ns ts j : Int)) := by rw [← hw1]; exact rj
                          have hb1 : Below w.heap.size w w1 := by rw [← hw1]; exact bdrew hbel _
                          have hrow1 : w1.rowIs w.heap.size 3 ns.length (rankF ns ts ns.length) := by rw [← hw1]; exact hrow
                          clear hw1
                          go_quiet (fail)
                          go_wp2_with fail
                          go_roundg g3
                          case measure => omega
                          case rel => exact ⟨j + 1, false, by omega, rfl, by go_num, HN, hrow1, bdrew hb1 _⟩
                · have HE : Hid (Pl.bestTo (rk ns ts) (bd ns) ts.length ns.length = some i) := hid_mk (Pl.best_unique hi HLi.out (unb_of (fun h => (by
                    have e : j = ns.length := by omega
                    rw [← e] at h
                    exact Bool.noConfusion (HB.out.2 h)))))
                  clear HI HB
                  go_wp2_with fail
                  go_ret
                  exact ⟨by rw [HE.out] <;> rfl, hbel⟩
        · have HE : Hid (Pl.bestTo (rk ns ts) (bd ns) ts.length ns.length = none) := hid_mk (Pl.best_none (fun i' h' => HI.out i' (by omega)))
          clear HI
          go_wp2_with fail
          go_ret
          exact ⟨by rw [HE.out] <;> rfl, hbel⟩
end Go.Proofs.Qxb6601124aDoor
