/-
  The walk of 'Best'.
-/
import Derived.Test.Qxb6601124aDoorMap
namespace Go.Proofs.Qxb6601124aDoor
open Go.RowKit Go.Shelf
set_option linter.unusedVariables false

theorem make_map (n : Int) (w : World) : (Instr.makeMap 64 (some (.int .i64 n))).run Tryd.prog w = .ok (.map (some w.heap.size)) (w.alloc (.map #[] 0)) := by
  have h : (asInt (Value.int IntKind.i64 n)).run Tryd.prog w = .ok n w := rfl
  simp [Instr.makeMap, run_underlying Tryd.underlying64, Result.andThen, h]

/-- The rank of what Best holds. -/
def brk (ns : List Nm) (ts : List T) : Option Nat → Nat
  | some b => rk ns ts b
  | none => ts.length

set_option maxRecDepth 100000 in
set_option maxHeartbeats 2000000 in
theorem best_any (A A2 : Option Addr) (c c2 : Nat) (ns : List Nm) (ts : List T) (w : World) (hn : ns.length ≤ 1048576) (hts : ts.length ≤ 1048576) (htl : ∀ n ∈ ns, n.tags.length ≤ 1048576) (hbu : ∀ n ∈ ns, n.bu.size ≤ 1048576)
    (hX : NamesAt w A ns) (hY : TagsAt w A2 ts) :
    Calls Tryd.prog 20 #[.slice A ns.length c, .slice A2 ts.length c2] w fun e w' => e = .returned (.tuple #[.int .i64 (ansI (Pl.bestTo (rk ns ts) (bd ns) ts.length ns.length)), .bool (Pl.bestTo (rk ns ts) (bd ns) ts.length ns.length).isSome]) ∧ Below w.heap.size w w' := by
  have hmk := fun w => make_map (ts.length : Int) w
  have HX := hid_mk hX
  have HY := hid_mk hY
  have HTL := hid_mk htl
  have HBU := hid_mk hbu
  clear hX hY htl hbu
  go_enter Tryd.func20, Tryd.ntmps20
  go_wp2_with fail
  go_loopg [25] ts.length (fun gf x wr => ∃ k : Nat, k + gf = ts.length ∧ x = .int .i64 k ∧ MapT wr w.heap.size ts k ∧ Below w.heap.size w wr)
  case atStart => exact ⟨0, by omega, rfl, MapT.made w ts, (Below.refl _ _).alloc (Nat.le_refl _) _⟩
  case round =>
    obtain ⟨k, hkg, rfl, hM, hbel⟩ := hrel
    by_cases hk : k < ts.length
    · obtain ⟨g', rfl⟩ : ∃ g', gk = g' + 1 := ⟨gk - 1, by omega⟩
      obtain ⟨t, ht⟩ : ∃ t, ts[k]? = some t := ⟨_, List.getElem?_eq_getElem hk⟩
      obtain ⟨b, o, rfl, hlt, a0, a1, a2⟩ := HY.out.below hbel k t ht
      have ix : (0 : Int) ≤ (k : Int) ∧ (k : Int) < (ts.length : Int) := by omega
      have HT := hid_mk ht
      clear ht
      obtain ⟨ob, hob⟩ : ∃ ob, Obj.cells #[Value.string t.p, Value.string t.a, Value.string t.l] 63 = ob := ⟨_, rfl⟩
      have hM1 : MapT (wr.alloc ob) w.heap.size ts k := hM.of_block (((Below.refl wr.heap.size wr).alloc (Nat.le_refl _) ob).block _ hM.lt)
      have hb1 : Below w.heap.size w (wr.alloc ob) := hbel.alloc (Nat.le_of_lt hM.lt) ob
      rcases hM1.look t with ⟨hl, hno⟩ | ⟨hl, hex⟩
      · obtain ⟨w', hst, hM2, hb2⟩ := hM1.store HT.out hno
        have hb3 : Below w.heap.size w w' := hb1.trans hb2
        unfold tv at hl hst
        have HM2 := hid_mk hM2
        clear hno hM2 hM1 hM hbel hb1 hb2
        subst hob
        go_wp2_with fail
        go_roundg g'
        case measure => omega
        case rel => exact ⟨k + 1, by omega, by go_num, HM2, hb3⟩
      · have HM2 := hid_mk (hM1.next HT.out hex)
        unfold tv at hl
        clear hex hM1 hM hbel
        subst hob
        go_wp2_with fail
        go_roundg g'
        case measure => omega
        case rel => exact ⟨k + 1, by omega, by go_num, HM2, hb1⟩
    · have hM1 := hM.whole (by omega)
      clear hM
      go_wp2_with fail
      clear hk hkg
      go_loopg [11, 12, 46] ns.length (fun gf x11 x12 x wr => ∃ (k : Nat) (bo : Option Nat) (z : Int) (r : Nat), k + gf = ns.length ∧ x = .int .i64 k ∧ x11 = .int .i64 z ∧ x12 = .int .i64 (r : Int) ∧ Hid (Pl.bestTo (rk ns ts) (bd ns) ts.length k = bo) ∧ Hid (ansI bo = z) ∧ Hid (brk ns ts bo = r) ∧ MapT wr w.heap.size ts ts.length ∧ Below w.heap.size w wr)
      case atStart => exact ⟨0, none, -1, ts.length, by omega, rfl, rfl, rfl, hid_mk rfl, hid_mk rfl, hid_mk rfl, hM1, hbel⟩
      case round =>
        clear hM1 hbel
        obtain ⟨k, bo, z, r, hkg, rfl, rfl, rfl, HBO, HZ, HR, hM, hbel⟩ := hrel
        by_cases hk : k < ns.length
        · obtain ⟨g2, rfl⟩ : ∃ g2, gk = g2 + 1 := ⟨gk - 1, by omega⟩
          obtain ⟨n, hnk⟩ : ∃ n, ns[k]? = some n := ⟨_, List.getElem?_eq_getElem hk⟩
          obtain ⟨b, o, A3, c3, rfl, hlt, a0, a1, a2, a3, ht⟩ := HX.out.below hbel k n hnk
          have ix : (0 : Int) ≤ (k : Int) ∧ (k : Int) < (ns.length : Int) := by omega
          have HNK := hid_mk hnk
          have hlen := HTL.out n (List.mem_of_getElem? hnk)
          have HTG := hid_mk ht
          clear hnk ht
          obtain ⟨ob, hob⟩ : ∃ ob, Obj.cells #[Value.string n.pr, Value.string n.ve, Value.string n.bu, Value.slice A3 n.tags.length c3] 39 = ob := ⟨_, rfl⟩
          have hM1 : MapT (wr.alloc ob) w.heap.size ts ts.length := hM.of_block (((Below.refl wr.heap.size wr).alloc (Nat.le_refl _) ob).block _ hM.lt)
          have hb1 : Below w.heap.size w (wr.alloc ob) := hbel.alloc (Nat.le_of_lt hM.lt) ob
          have hbu1 : (wr.alloc ob).cell? ⟨wr.heap.size, 2, none⟩ = some (.string n.bu) := by subst hob; go_simp
          have HTG1 : Hid (TagsAt (wr.alloc ob) A3 n.tags) := hid_mk (HTG.out.below ((Below.refl wr.heap.size wr).alloc (Nat.le_refl _) ob))
          have HM := hid_mk hM1
          have HB1 := hid_mk hb1
          have HBU1 := hid_mk hbu1
          clear hM1 hb1 hbu1
          subst hob
          go_wp2_with fail
          obtain ⟨W1, hW1⟩ : ∃ W1, wr.alloc (Obj.cells #[Value.string n.pr, Value.string n.ve, Value.string n.bu, Value.slice A3 n.tags.length c3] 39) = W1 := ⟨_, rfl⟩
          rw [hW1] at HTG1 HM HB1 HBU1 ⊢
          have hszW : wr.heap.size < W1.heap.size := by rw [← hW1, World.size_alloc]; omega
          have hblt : b < wr.heap.size := hlt
          clear hW1 a0 a1 a2 a3 hM hbel HTG hlt
          generalize wr.heap.size = B at *
          go_loopg [15, 56] n.tags.length (fun gf x15 x wq => ∃ (j q : Nat), j + gf = n.tags.length ∧ x = .int .i64 j ∧ x15 = .int .i64 (q : Int) ∧ Hid (Pl.rankTo ts (n.tags.take j) = q) ∧ Below W1.heap.size W1 wq)
          case atStart => exact ⟨0, ts.length, by omega, rfl, rfl, hid_mk rfl, Below.refl _ _⟩
          case round =>
            obtain ⟨j, q, hjg, rfl, rfl, HQ, hbel⟩ := hrel
            have hM : MapT _ w.heap.size ts ts.length := HM.out.of_block (hbel.block _ HM.out.lt)
            by_cases hj : j < n.tags.length
            · obtain ⟨g3, rfl⟩ : ∃ g3, gk = g3 + 1 := ⟨gk - 1, by omega⟩
              obtain ⟨t, ht⟩ : ∃ t, n.tags[j]? = some t := ⟨_, List.getElem?_eq_getElem hj⟩
              obtain ⟨b2, o2, rfl, hlt2, a0, a1, a2⟩ := HTG1.out.below hbel j t ht
              have ixj : (0 : Int) ≤ (j : Int) ∧ (j : Int) < (n.tags.length : Int) := by omega
              have hsn : n.tags.take (j + 1) = n.tags.take j ++ [t] := by rw [List.take_add_one, ht]; rfl
              have hstep := Pl.rankTo_snoc ts (n.tags.take j) t
              rw [← hsn, HQ.out] at hstep
              clear hsn ht HQ
              obtain ⟨ob, hob⟩ : ∃ ob, Obj.cells #[Value.string t.p, Value.string t.a, Value.string t.l] 63 = ob := ⟨_, rfl⟩
              have hM2 : MapT (wr.alloc ob) w.heap.size ts ts.length := hM.of_block (((Below.refl wr.heap.size wr).alloc (Nat.le_refl _) ob).block _ hM.lt)
              have hb2 : Below W1.heap.size W1 (wr.alloc ob) := hbel.alloc hbel.size ob
              rcases hM2.look t with ⟨hl, hno⟩ | ⟨hl, hex⟩
              · have HN : Hid (Pl.rankTo ts (n.tags.take (j + 1)) = q) := hid_mk (by
                  rw [hstep, if_neg]
                  rintro ⟨hc, _⟩
                  have hm : t ∈ ts := by simpa using hc
                  obtain ⟨i, hi, hi2⟩ := List.getElem_of_mem hm
                  exact hno i hi (by rw [List.getElem?_eq_getElem hi, hi2]))
                unfold tv at hl
                clear hstep hno hM2 hM hbel
                subst hob
                go_wp2_with fail
                go_roundg g3
                case measure => omega
                case rel => exact ⟨j + 1, q, by omega, by go_num, rfl, HN, hb2⟩
              · have hc : ts.contains t = true := by
                  obtain ⟨i, _, hi⟩ := hex
                  simpa using List.mem_of_getElem? hi
                unfold tv at hl
                clear hex hM2 hM hbel
                subst hob
                by_cases hlq : ts.idxOf t < q
                · have HN : Hid (Pl.rankTo ts (n.tags.take (j + 1)) = ts.idxOf t) := hid_mk (by rw [hstep, if_pos ⟨hc, hlq⟩])
                  clear hstep hc
                  generalize ts.idxOf t = x at *
                  go_wp2_with fail
                  go_roundg g3
                  case measure => omega
                  case rel => exact ⟨j + 1, x, by omega, by go_num, rfl, HN, hb2⟩
                · have HN : Hid (Pl.rankTo ts (n.tags.take (j + 1)) = q) := hid_mk (by rw [hstep, if_neg (fun h => hlq h.2)])
                  clear hstep hc
                  generalize ts.idxOf t = x at *
                  go_wp2_with fail
                  go_roundg g3
                  case measure => omega
                  case rel => exact ⟨j + 1, q, by omega, by go_num, rfl, HN, hb2⟩
            · have hqr : rk ns ts k = q := by
                rw [rk_at HNK.out, ← Pl.rank_eq, ← HQ.out, List.take_of_length_le (by omega)]
              have hbu2 : wr.cell? ⟨B, 2, none⟩ = some (.string n.bu) := (hbel.cell hszW).trans HBU1.out
              have hb3 : Below w.heap.size w wr := HB1.out.trans (hbel.mono HB1.out.size)
              have hBlt : B < wr.heap.size := Nat.lt_of_lt_of_le hszW hbel.size
              have hd : Pl.bestTo (rk ns ts) (bd ns) ts.length (k + 1) = if rk ns ts k = ts.length then Pl.bestTo (rk ns ts) (bd ns) ts.length k else match Pl.bestTo (rk ns ts) (bd ns) ts.length k with
                | none => some k
                | some b => if rk ns ts k < rk ns ts b ∨ (rk ns ts k = rk ns ts b ∧ 0 < Pl.cb (bd ns k) (bd ns b)) then some k else some b := rfl
              rw [HBO.out, hqr] at hd
              have HD := hid_mk hd
              have HQR := hid_mk hqr
              clear hd hqr HQ HBU1 HM HB1 HTG1 hbel hszW
              by_cases hqL : q = ts.length
              · have HN : Hid (Pl.bestTo (rk ns ts) (bd ns) ts.length (k + 1) = bo) := hid_mk (by rw [HD.out, if_pos hqL])
                have e : ((q : Int) == (ts.length : Int)) = true := by rw [hqL]; simp
                clear hqL HD
                go_wp2_with fail
                go_roundg g2
                case measure => omega
                case rel => exact ⟨k + 1, bo, z, r, by omega, by go_num, rfl, rfl, HN, HZ, HR, hM, hb3⟩
              · have e : ((q : Int) == (ts.length : Int)) = false := by rw [beq_eq_false_iff_ne]; omega
                have HD2 := HD.out
                rw [if_neg hqL] at HD2
                clear HD hqL
                have q2 : ∀ p : InB wr, p.val.cell? ⟨B, 2, none⟩ = some (.string n.bu) := fun p => p.cell hBlt hbu2
                clear hbu2
                cases bo with
                | none =>
                  have hz : z < 0 := by rw [← HZ.out]; decide
                  have HN : Hid (Pl.bestTo (rk ns ts) (bd ns) ts.length (k + 1) = some k) := hid_mk HD2
                  clear HD2
                  go_wp2_with fail
                  refine wp_region_below (by kernel_rfl) (by kernel_rfl) ?_
                  repeat (go_big_quiet_step (fail))
                  refine wpQuiet_nil ?_
                  rintro w3 ⟨p, hp⟩
                  have hb4 : Below wr.heap.size wr w3 := by rw [hp]; exact p.ok
                  have hM4 : MapT w3 w.heap.size ts ts.length := hM.of_block (hb4.block _ hM.lt)
                  have hb5 : Below w.heap.size w w3 := hb3.trans (hb4.mono hb3.size)
                  clear hp p q2 hM hb3 hb4
                  go_wp2_with fail
                  go_roundg g2
                  case measure => omega
                  case rel => exact ⟨k + 1, some k, (k : Int), q, by omega, by go_num, rfl, rfl, HN, hid_mk rfl, hid_mk HQR.out, hM4, hb5⟩
                | some bb =>
                  have hz0 : (bb : Int) = z := HZ.out
                  subst hz0
                  have hz : decide ((bb : Int) < 0) = false := by simp
                  have hr0 : rk ns ts bb = r := HR.out
                  have HD3 : Pl.bestTo (rk ns ts) (bd ns) ts.length (k + 1) = if q < r ∨ (q = r ∧ 0 < Pl.cb (bd ns k) (bd ns bb)) then some k else some bb := by rw [← hr0]; exact HD2
                  have hbbk : bb < k := ((Pl.bestTo_spec k).2 bb HBO.out).1
                  clear HD2 hr0
                  by_cases hqr : q < r
                  · have HN : Hid (Pl.bestTo (rk ns ts) (bd ns) ts.length (k + 1) = some k) := hid_mk (by rw [HD3, if_pos (Or.inl hqr)])
                    clear HD3
                    go_wp2_with fail
                    refine wp_region_below (by kernel_rfl) (by kernel_rfl) ?_
                    repeat (go_big_quiet_step (fail))
                    refine wpQuiet_nil ?_
                    rintro w3 ⟨p, hp⟩
                    have hb4 : Below wr.heap.size wr w3 := by rw [hp]; exact p.ok
                    have hM4 : MapT w3 w.heap.size ts ts.length := hM.of_block (hb4.block _ hM.lt)
                    have hb5 : Below w.heap.size w w3 := hb3.trans (hb4.mono hb3.size)
                    clear hp p q2 hM hb3 hb4
                    go_wp2_with fail
                    go_roundg g2
                    case measure => omega
                    case rel => exact ⟨k + 1, some k, (k : Int), q, by omega, by go_num, rfl, rfl, HN, hid_mk rfl, hid_mk HQR.out, hM4, hb5⟩
                  · by_cases hqe : q = r
                    · have e3 : ((q : Int) == (r : Int)) = true := by rw [hqe]; simp
                      obtain ⟨n2, hn2⟩ : ∃ n, ns[bb]? = some n := ⟨_, List.getElem?_eq_getElem (by omega)⟩
                      obtain ⟨b', o', A4, c4, e4, hlt4, -, -, p2, -, -⟩ := HX.out.below hb3 bb n2 hn2
                      obtain ⟨rfl, rfl⟩ : b = b' ∧ o = o' := by
                        have := Option.some.inj e4
                        exact ⟨congrArg Addr.block this, congrArg Addr.off this⟩
                      have Q3C : ∀ p : InB wr, p.val.cell? ⟨b, o + bb * 4 + 2, none⟩ = some (.string n2.bu) := fun p => p.cell hlt4 p2
                      have ixb : (0 : Int) ≤ (bb : Int) ∧ (bb : Int) < (ns.length : Int) := by omega
                      obtain ⟨C, hC⟩ : ∃ C, Pl.cb n.bu.data.toList n2.bu.data.toList = C := ⟨_, rfl⟩
                      have H34 : Hid (∀ W, Calls Tryd.prog 34 #[.string n.bu, .string n2.bu] W fun e w' => e = .returned (.int .i64 C) ∧ Below W.heap.size W w') := hid_mk (fun W => by
                        rw [← hC]
                        exact cb_any _ _ W (HBU.out n (List.mem_of_getElem? HNK.out)) (HBU.out n2 (List.mem_of_getElem? hn2)))
                      rw [bd_at HNK.out, bd_at hn2, hC] at HD3
                      clear hC hn2 e4 hlt4 p2
                      by_cases hpos : 0 < C
                      · have HN : Hid (Pl.bestTo (rk ns ts) (bd ns) ts.length (k + 1) = some k) := hid_mk (by rw [HD3, if_pos (Or.inr ⟨hqe, hpos⟩)])
                        clear HD3 hqe
                        go_wp2_with fail
                        refine wp_region_below (by kernel_rfl) (by kernel_rfl) ?_
                        repeat (go_big_quiet_step ((go_at_call 34; exact Calls.inB_of (H34.out _))))
                        refine wpQuiet_nil ?_
                        rintro w3 ⟨p, hp⟩
                        have hb4 : Below wr.heap.size wr w3 := by rw [hp]; exact p.ok
                        have hM4 : MapT w3 w.heap.size ts ts.length := hM.of_block (hb4.block _ hM.lt)
                        have hb5 : Below w.heap.size w w3 := hb3.trans (hb4.mono hb3.size)
                        clear hp p q2 hM hb3 hb4 Q3C
                        go_wp2_with fail
                        go_roundg g2
                        case measure => omega
                        case rel => exact ⟨k + 1, some k, (k : Int), q, by omega, by go_num, rfl, rfl, HN, hid_mk rfl, hid_mk HQR.out, hM4, hb5⟩
                      · have HN : Hid (Pl.bestTo (rk ns ts) (bd ns) ts.length (k + 1) = some bb) := hid_mk (by rw [HD3, if_neg (by omega)])
                        clear HD3 hqe
                        go_wp2_with fail
                        refine wp_region_below (by kernel_rfl) (by kernel_rfl) ?_
                        repeat (go_big_quiet_step ((go_at_call 34; exact Calls.inB_of (H34.out _))))
                        refine wpQuiet_nil ?_
                        rintro w3 ⟨p, hp⟩
                        have hb4 : Below wr.heap.size wr w3 := by rw [hp]; exact p.ok
                        have hM4 : MapT w3 w.heap.size ts ts.length := hM.of_block (hb4.block _ hM.lt)
                        have hb5 : Below w.heap.size w w3 := hb3.trans (hb4.mono hb3.size)
                        clear hp p q2 hM hb3 hb4 Q3C
                        go_wp2_with fail
                        go_roundg g2
                        case measure => omega
                        case rel => exact ⟨k + 1, some bb, (bb : Int), r, by omega, by go_num, rfl, rfl, HN, hid_mk rfl, HR, hM4, hb5⟩
                    · have e3 : ((q : Int) == (r : Int)) = false := by rw [beq_eq_false_iff_ne]; omega
                      have HN : Hid (Pl.bestTo (rk ns ts) (bd ns) ts.length (k + 1) = some bb) := hid_mk (by rw [HD3, if_neg (by omega)])
                      clear HD3 hqe
                      go_wp2_with fail
                      refine wp_region_below (by kernel_rfl) (by kernel_rfl) ?_
                      repeat (go_big_quiet_step (fail))
                      refine wpQuiet_nil ?_
                      rintro w3 ⟨p, hp⟩
                      have hb4 : Below wr.heap.size wr w3 := by rw [hp]; exact p.ok
                      have hM4 : MapT w3 w.heap.size ts ts.length := hM.of_block (hb4.block _ hM.lt)
                      have hb5 : Below w.heap.size w w3 := hb3.trans (hb4.mono hb3.size)
                      clear hp p q2 hM hb3 hb4
                      go_wp2_with fail
                      go_roundg g2
                      case measure => omega
                      case rel => exact ⟨k + 1, some bb, (bb : Int), r, by omega, by go_num, rfl, rfl, HN, hid_mk rfl, HR, hM4, hb5⟩
        · have hk2 : k = ns.length := by omega
          rw [hk2] at HBO
          clear hk2 hkg
          cases bo with
          | none =>
            have hz : ¬ 0 ≤ z := by rw [← HZ.out]; decide
            go_wp2_with fail
            refine bodyPost_ret (v := .tuple #[.int .i64 z, .bool false]) (by simp [results, Tryd.results20, go_sem]) rfl ⟨?_, hbel⟩
            rw [HBO.out, ← HZ.out]; rfl
          | some b =>
            have hz : 0 ≤ z := by rw [← HZ.out]; exact Int.natCast_nonneg b
            go_wp2_with fail
            refine bodyPost_ret (v := .tuple #[.int .i64 z, .bool true]) (by simp [results, Tryd.results20, go_sem]) rfl ⟨?_, hbel⟩
            rw [HBO.out, ← HZ.out]; rfl
end Go.Proofs.Qxb6601124aDoor
