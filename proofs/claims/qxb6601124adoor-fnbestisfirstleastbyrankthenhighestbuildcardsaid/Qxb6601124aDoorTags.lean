/-
  Tags, how they lie in memory, and the walk of 'zzFirstRank'.
-/
import Derived.Test.Qxb6601124aDoorCmp
import Derived.Test.Qxb6601124aDoorBestPl
import Derived.Laws.StructEq
namespace Go.Proofs.Qxb6601124aDoor
open Go.RowKit Go.Shelf
set_option linter.unusedVariables false

/-- One tag: its three texts. -/
structure T where
  p : ByteArray
  a : ByteArray
  l : ByteArray
deriving DecidableEq

theorem toList_beq (x y : ByteArray) : (x.toList == y.toList) = decide (x = y) := by
  rw [Bool.eq_iff_iff, beq_iff_eq, decide_eq_true_iff, Lib.toList_data, Lib.toList_data]
  exact ⟨ba_ext, fun h => by rw [h]⟩
theorem toList_iff (x y : ByteArray) : x.toList = y.toList ↔ x = y := by
  rw [Lib.toList_data, Lib.toList_data]
  exact ⟨ba_ext, fun h => by rw [h]⟩
theorem T_eq (x y : T) : (x == y) = (decide (x.p = y.p) && (decide (x.a = y.a) && decide (x.l = y.l))) := by
  rw [Bool.eq_iff_iff]
  cases x; cases y
  simp

theorem eq_tag (x y : T) (w : World) : (binOp .eql 63 (.agg #[.string x.p, .string x.a, .string x.l]) (.agg #[.string y.p, .string y.a, .string y.l])).run Tryd.prog w = .ok (.bool (x == y)) w := by
  have u9 := Tryd.underlying9
  have a9 := Tryd.isAgg9
  have z9 := Tryd.sizeOf9
  have hS : Tryd.prog.underlying 63 = some (.struct (Tryd.prog.fieldsOf 63)) := by kernel_rfl
  have hp : Tryd.prog.stoodInHeld 63 = false := by kernel_rfl
  rw [run_eql_struct, show (10000 : Nat) = 9999 + 1 from rfl, run_equalIn_agg w 9999 63 _ _ hS hp]
  simp only [Program.fieldsOf, Tryd.underlying63]
  rw [T_eq]
  go_simp
  by_cases h1 : x.p = y.p <;> by_cases h2 : x.a = y.a <;> by_cases h3 : x.l = y.l <;> simp [toList_iff, h1, h2, h3]
theorem guard_tag : Tryd.prog.eqGuardType Tryd.prog.depth 63 = false := by kernel_rfl


/-- The tags ts lie behind a slice's address. -/
def TagsAt (w : World) (A : Option Addr) (ts : List T) : Prop :=
  ∀ (j : Nat) t, ts[j]? = some t → ∃ b o : Nat, A = some ⟨b, o, none⟩ ∧ b < w.heap.size ∧
    w.cell? ⟨b, o + j * 3, none⟩ = some (.string t.p) ∧ w.cell? ⟨b, o + j * 3 + 1, none⟩ = some (.string t.a) ∧ w.cell? ⟨b, o + j * 3 + 2, none⟩ = some (.string t.l)

theorem TagsAt.below {w w' : World} {A : Option Addr} {ts : List T} (h : TagsAt w A ts) (hb : Below w.heap.size w w') : TagsAt w' A ts := fun j t ht => by
  obtain ⟨b, o, hv, hlt, h0, h1, h2⟩ := h j t ht
  exact ⟨b, o, hv, Nat.lt_of_lt_of_le hlt hb.size, (hb.cell (p := ⟨b, o + j * 3, none⟩) hlt).trans h0, (hb.cell (p := ⟨b, o + j * 3 + 1, none⟩) hlt).trans h1, (hb.cell (p := ⟨b, o + j * 3 + 2, none⟩) hlt).trans h2⟩

theorem findIdx_next {α : Type} (p : α → Bool) (l : List α) (j : Nat) (h : ∀ i x, i < j → l[i]? = some x → p x = false) :
    (∀ x, l[j]? = some x → p x = true → l.findIdx p = j) ∧ (l.length ≤ j → l.findIdx p = l.length) := by
  constructor
  · intro x hx hp
    have hj : j < l.length := (List.getElem?_eq_some_iff.1 hx).1
    rw [List.findIdx_eq hj]
    refine ⟨?_, fun i hi => ?_⟩
    · rw [List.getElem?_eq_getElem hj] at hx; rw [Option.some.inj hx]; exact hp
    · exact h i _ hi (List.getElem?_eq_getElem (by omega))
  · intro hl
    rw [List.findIdx_eq_length]
    intro x hx
    obtain ⟨i, hi, rfl⟩ := List.getElem_of_mem hx
    exact h i _ (by omega) (List.getElem?_eq_getElem hi)

set_option maxRecDepth 100000 in
set_option maxHeartbeats 2000000 in
theorem rank_any (A A2 : Option Addr) (c c2 : Nat) (own ts : List T) (w : World) (hn : own.length ≤ 1048576) (hn2 : ts.length ≤ 1048576) (hX : TagsAt w A own) (hY : TagsAt w A2 ts) :
    Calls Tryd.prog 39 #[.slice A own.length c, .slice A2 ts.length c2] w fun e w' => e = .returned (.int .i64 (Pl.firstRank own ts : Int)) ∧ ∃ N, w' = w.drewN N := by
  have HX := hid_mk hX
  have HY := hid_mk hY
  clear hX hY
  go_enter Tryd.func39, Tryd.ntmps39
  go_wp2_with fail
  go_loopg [5, 6] ts.length (fun gf x y wr => ∃ j : Nat, j + gf = ts.length ∧ x = .int .i64 j ∧ Hid (∀ i t, i < j → ts[i]? = some t → own.contains t = false) ∧ ∃ N, wr = w.drewN N)
  case atStart => exact ⟨0, by omega, rfl, hid_mk (fun i t h => by omega), 0, rfl⟩
  case round =>
    obtain ⟨j, hjg, rfl, HJ, N, rfl⟩ := hrel
    by_cases hj : j < ts.length
    · obtain ⟨g', rfl⟩ : ∃ g', gk = g' + 1 := ⟨gk - 1, by omega⟩
      obtain ⟨t, ht⟩ : ∃ t, ts[j]? = some t := ⟨_, List.getElem?_eq_getElem hj⟩
      have HT := hid_mk ht
      clear ht
      go_wp2_with fail
      go_loopg [6] own.length (fun gf x wr => ∃ k : Nat, k + gf = own.length ∧ x = .int .i64 k ∧ Hid (∀ i s, i < k → own[i]? = some s → (s == t) = false) ∧ ∃ N, wr = w.drewN N)
      case atStart => exact ⟨0, by omega, rfl, hid_mk (fun i t h => by omega), _, rfl⟩
      case round =>
        obtain ⟨k, hkg, rfl, HK, M, rfl⟩ := hrel
        by_cases hk : k < own.length
        · obtain ⟨s, hs⟩ : ∃ s, own[k]? = some s := ⟨_, List.getElem?_eq_getElem hk⟩
          obtain ⟨b, o, rfl, -, a0, a1, a2⟩ := HX.out k s hs
          obtain ⟨b2, o2, rfl, -, c0, c1, c3⟩ := HY.out j t HT.out
          have HS := hid_mk hs
          clear hs
          have ix : (0 : Int) ≤ (k : Int) ∧ (k : Int) < (own.length : Int) := by omega
          have iy : (0 : Int) ≤ (j : Int) ∧ (j : Int) < (ts.length : Int) := by omega
          have hg := guard_tag
          have hq := fun w => eq_tag s t w
          cases hst : (s == t) with
          | true =>
            have HE : Hid (Pl.firstRank own ts = j) := hid_mk ((findIdx_next _ ts j HJ.out).1 t HT.out (by
              have : s = t := by simpa using hst
              rw [← this]
              simpa using List.mem_of_getElem? HS.out))
            rw [hst] at hq
            clear hst
            go_wp2_with fail
            go_quiet (fail)
            go_wp2_with fail
            go_ret
            exact ⟨by rw [HE.out] <;> rfl, _, by rw [World.drewN_drewN]⟩
          | false =>
            have HN : Hid (∀ i s, i < k + 1 → own[i]? = some s → (s == t) = false) := hid_mk (fun i s' hi hs' => by
              by_cases e : i = k
              · rw [e, HS.out] at hs'; rw [← Option.some.inj hs']; exact hst
              · exact HK.out i s' (by omega) hs')
            rw [hst] at hq
            clear hst
            go_wp2_with fail
            go_quiet (fail)
            go_wp2_with fail
            obtain ⟨g2, rfl⟩ : ∃ g2, gk = g2 + 1 := ⟨gk - 1, by omega⟩
            go_roundg g2
            case measure => omega
            case rel => exact ⟨k + 1, by omega, by go_num, HN, _, rfl⟩
        · have HN : Hid (∀ i t, i < j + 1 → ts[i]? = some t → own.contains t = false) := hid_mk (fun i t' hi ht' => by
            by_cases e : i = j
            · rw [e, HT.out] at ht'
              rw [← Option.some.inj ht']
              cases hc : own.contains t with
              | false => rfl
              | true =>
                have hm : t ∈ own := by simpa using hc
                obtain ⟨q, hq, hq2⟩ := List.getElem_of_mem hm
                have := HK.out q t (by omega) (by rw [List.getElem?_eq_getElem hq, hq2])
                simp at this
            · exact HJ.out i t' (by omega) ht')
          clear HK
          go_wp2_with fail
          go_roundg g'
          case measure => omega
          case rel => exact ⟨j + 1, by omega, by go_num, HN, _, rfl⟩
    · have HE : Hid (Pl.firstRank own ts = ts.length) := hid_mk ((findIdx_next _ ts j HJ.out).2 (by omega))
      go_wp2_with fail
      go_ret
      exact ⟨by rw [HE.out] <;> rfl, N, rfl⟩
end Go.Proofs.Qxb6601124aDoor
