/-
  The walk of 'stripParamsScan' and of 'countByte'.
-/
import Derived.Test.Qxb6604302aDoorSub
import Derived.OwnWalk
namespace Go.Proofs.Qxb6604302aDoor
open Go.RowKit

theorem hid_mk {p : Prop} (h : p) : Hid p := h
def byteV (b : UInt8) : Value := .int .u8 (b.toNat : Int)
theorem Tryd.info5 : (Tryd.prog.info? 5).map (fun i => (i.zero, i.size, i.bytes)) = some (some (.int .u8 0), 1, 1) := by kernel_rfl

theorem take_snoc (s : ByteArray) (k : Nat) (h : k < s.size) : s.data.toList.take (k + 1) = s.data.toList.take k ++ [s[k]] := by
  rw [List.take_succ_eq_append_getElem (by rw [ba_len]; exact h)]; rfl

theorem own_block {w : World} {base : Nat} {e : TypeId} {size : Nat} {v : Value} {n : Nat} {xs : List Value} (h : w.ownsRow base e size v n xs) : ∀ k, v.ownBlock = some k → base ≤ k := by
  intro k hk
  obtain ⟨_, ⟨rfl, _⟩ | ⟨g, cap, cur, rfl, hb, _⟩⟩ := h
  · cases hk
  · cases hk; exact hb

theorem one_new (W : World) (v : Value) : ∀ (j : Nat) u, [v][j]? = some u → (W.alloc (.cells #[v] 5)).cell? ((⟨W.heap.size, 0, none⟩ : Addr).add j) = some u := by
  intro j u hj
  match j, hj with
  | 0, hj =>
    simp at hj; subst hj
    have h : (W.alloc (.cells #[v] 5)).heap[W.heap.size]? = some (.cells #[v] 5 (0, 0)) := by
      show (W.heap.push _)[W.heap.size]? = _
      simp
    have ea : (⟨W.heap.size, 0, none⟩ : Addr).add 0 = ⟨W.heap.size, 0, none⟩ := by simp [Addr.add]
    rw [ea]
    unfold World.cell?
    rw [h]; rfl

/-- What the loop has gathered. -/
def Rel (p : ByteArray) (w : World) (k : Nat) (v : Value) (wr : World) : Prop :=
  wr.ownsRow w.heap.size 5 1 v (Pl.scan false (p.data.toList.take k)).length ((Pl.scan false (p.data.toList.take k)).map byteV) ∧ Below w.heap.size w wr ∧ v ≠ .slice none 0 0

theorem Rel.keep {p : ByteArray} {w : World} {k : Nat} {v v' : Value} {wr w1 : World} (h : Rel p w k v wr) (b : UInt8)
    (hs : Pl.scan false (p.data.toList.take (k + 1)) = Pl.scan false (p.data.toList.take k) ++ [b])
    (hown' : w1.ownsRow w.heap.size 5 1 v' ((Pl.scan false (p.data.toList.take k)).length + 1) ((Pl.scan false (p.data.toList.take k)).map byteV ++ [byteV b]))
    (hgrow : (wr.alloc (.cells #[byteV b] 5)).grownBy w1 v.ownBlock) (hnil : v' = .slice none 0 0 ↔ v = .slice none 0 0 ∧ 1 = 0) : Rel p w (k + 1) v' w1 := by
  obtain ⟨hown, hB, hv⟩ := h
  refine ⟨?_, ?_, fun e => by have := (hnil.1 e).2; omega⟩
  · rw [hs]; simpa using hown'
  · exact (hB.alloc hB.size _).grown hgrow (by have := hB.size; simp; omega) (fun r e => own_block hown r e)

theorem Rel.same {p : ByteArray} {w : World} {k : Nat} {v : Value} {wr : World} (h : Rel p w k v wr)
    (hs : Pl.scan false (p.data.toList.take (k + 1)) = Pl.scan false (p.data.toList.take k)) : Rel p w (k + 1) v wr := by
  obtain ⟨hown, hB, hv⟩ := h
  exact ⟨by rw [hs]; exact hown, hB, hv⟩

theorem Rel.text {p : ByteArray} {w : World} {v : Value} {wr : World} (h : Rel p w p.size v wr) :
    (convert 32 9 v).run Tryd.prog wr = .ok (.string ⟨(Pl.scan false p.data.toList).toArray⟩) wr := by
  have e : p.data.toList.take p.size = p.data.toList := List.take_of_length_le (by rw [ba_len]; exact Nat.le_refl _)
  obtain ⟨hown, hB, hv⟩ := h
  rw [e] at hown
  have hc := fun g hg => hown.cells (g := g) hg
  obtain ⟨_, ⟨h1, _⟩ | ⟨g, cap, cur, rfl, _⟩⟩ := hown
  · exact absurd h1 hv
  · refine run_convert_bytes_back wr 32 9 5 ⟨g, 0, none⟩ cap _ Tryd.underlying32 Tryd.underlying5 Tryd.underlying9 (fun j hj => ?_)
    exact hc g rfl j _ (by rw [List.getElem?_map, List.getElem?_eq_getElem hj]; rfl)

set_option maxHeartbeats 1000000 in
theorem scan_any (p : ByteArray) (w : World) (hp : p.size ≤ 1048576) :
    Calls Tryd.prog 8 #[.string p] w fun e w' => e = .returned (.string ⟨(Pl.scan false p.data.toList).toArray⟩) ∧ Below w.heap.size w w' := by
  obtain ⟨i0, hi, hz0, hz1, hz2⟩ := info_parts Tryd.info5
  go_enter Tryd.func8, Tryd.ntmps8
  go_wp2_with (at_make; refine wpList_make_own _ rfl _ _ 32 rfl w.heap.size 5 i0 (.int .u8 0) 1 Tryd.underlying32 hi hz0 hz1 .i64 .i64 _ p.size rfl rfl rfl (by rw [hz2]; omega) (by unfold maxLen; omega) (Nat.le_refl _) ?_; intro w0 hown0 hgrow0)
  have hR0 : Rel p w 0 (.slice (some ⟨w.heap.size, 0, none⟩) 0 p.size) w0 := ⟨hown0, (Below.refl _ w).grown hgrow0 (Nat.le_refl _) (fun r e => by cases e), fun e => by cases e⟩
  clear hown0 hgrow0
  go_loopw [3, 4, 5] (fun v sk i wr => ∃ k : Nat, k ≤ p.size ∧ i = .int .i64 k ∧ sk = .bool (Pl.skip false (p.data.toList.take k)) ∧ Rel p w k v wr) (fun _ _ i _ => p.size - (intOf i).toNat)
  case atStart => exact ⟨0, Nat.zero_le _, rfl, rfl, hR0⟩
  case round =>
    clear hR0
    obtain ⟨k, hk, rfl, rfl, hR⟩ := hrel
    have hlen := Pl.scan_len false (p.data.toList.take k)
    have hlen2 : (p.data.toList.take k).length ≤ k := List.length_take_le _ _
    by_cases hlt : k < p.size
    · have hts := take_snoc p k hlt
      have HA : Hid (Pl.scan false (p.data.toList.take (k + 1)) = Pl.scan false (p.data.toList.take k) ++ Pl.scan (Pl.skip false (p.data.toList.take k)) [p[k]]) := by rw [hts]; exact Pl.scan_append _ _ _
      have HB : Hid (Pl.skip false (p.data.toList.take (k + 1)) = Pl.skip (Pl.skip false (p.data.toList.take k)) [p[k]]) := by rw [hts]; exact Pl.skip_append _ _ _
      clear hts
      obtain ⟨hown, hB, hv⟩ := id hR
      by_cases h1 : p[k] = 47
      · have b1 : ((p[k].toNat : Int) == 47) = true := by rw [h1]; rfl
        have HS : Hid (Pl.scan false (p.data.toList.take (k + 1)) = Pl.scan false (p.data.toList.take k) ++ [p[k]]) := hid_mk (by rw [HA.out]; simp [Pl.scan, h1])
        have HK : Hid (Pl.skip false (p.data.toList.take (k + 1)) = false) := hid_mk (by rw [HB.out]; simp [Pl.skip, h1])
        clear h1
        go_wp2_with (at_builtin; refine wpList_append_own _ rfl _ _ 32 rfl w.heap.size 5 i0 (.int .u8 0) 1 1 Tryd.underlying32 hi hz0 hz1 hz2 rfl (by decide) _ _ _ rfl (hown.alloc _) ⟨wr.heap.size, 0, none⟩ 1 1 [byteV p[k]] rfl rfl (one_new _ _) (by intro u hu; simp at hu; subst hu; rfl) (by unfold maxLen; omega) (by omega) (by have := hB.size; simp; omega) ?_; intro v' w1 hown' hgrow hnil)
        go_roundw
        case rel => exact ⟨k + 1, by omega, by go_num, by rw [HK.out], hR.keep _ HS.out hown' hgrow hnil⟩
        case measure => simp [intOf]; omega
      · have b1 : ((p[k].toNat : Int) == 47) = false := by rw [beq_eq_false_iff_ne]; intro e; exact h1 (UInt8.toNat_inj.1 (by show p[k].toNat = 47; omega))
        by_cases h2 : p[k] = 59
        · have b2 : ((p[k].toNat : Int) == 59) = true := by rw [h2]; rfl
          have HS : Hid (Pl.scan false (p.data.toList.take (k + 1)) = Pl.scan false (p.data.toList.take k)) := hid_mk (by rw [HA.out, h2]; simp [Pl.scan])
          have HK : Hid (Pl.skip false (p.data.toList.take (k + 1)) = true) := hid_mk (by rw [HB.out, h2]; simp [Pl.skip])
          clear h1 h2
          go_wp2
          go_roundw
          case rel => exact ⟨k + 1, by omega, by go_num, by rw [HK.out], hR.same HS.out⟩
          case measure => simp [intOf]; omega
        · have b2 : ((p[k].toNat : Int) == 59) = false := by rw [beq_eq_false_iff_ne]; intro e; exact h2 (UInt8.toNat_inj.1 (by show p[k].toNat = 59; omega))
          cases hsk : Pl.skip false (p.data.toList.take k) with
          | true =>
            have HS : Hid (Pl.scan false (p.data.toList.take (k + 1)) = Pl.scan false (p.data.toList.take k)) := hid_mk (by rw [HA.out, hsk]; simp [Pl.scan, h1, h2])
            have HK : Hid (Pl.skip false (p.data.toList.take (k + 1)) = true) := hid_mk (by rw [HB.out, hsk]; simp [Pl.skip, h1, h2])
            clear h1 h2
            go_wp2
            go_roundw
            case rel => exact ⟨k + 1, by omega, by go_num, by rw [HK.out], hR.same HS.out⟩
            case measure => simp [intOf]; omega
          | false =>
            have HS : Hid (Pl.scan false (p.data.toList.take (k + 1)) = Pl.scan false (p.data.toList.take k) ++ [p[k]]) := hid_mk (by rw [HA.out, hsk]; simp [Pl.scan, h1, h2])
            have HK : Hid (Pl.skip false (p.data.toList.take (k + 1)) = false) := hid_mk (by rw [HB.out, hsk]; simp [Pl.skip, h1, h2])
            clear h1 h2
            go_wp2_with (at_builtin; refine wpList_append_own _ rfl _ _ 32 rfl w.heap.size 5 i0 (.int .u8 0) 1 1 Tryd.underlying32 hi hz0 hz1 hz2 rfl (by decide) _ _ _ rfl (hown.alloc _) ⟨wr.heap.size, 0, none⟩ 1 1 [byteV p[k]] rfl rfl (one_new _ _) (by intro u hu; simp at hu; subst hu; rfl) (by unfold maxLen; omega) (by omega) (by have := hB.size; simp; omega) ?_; intro v' w1 hown' hgrow hnil)
            go_roundw
            case rel => exact ⟨k + 1, by omega, by go_num, by rw [HK.out], hR.keep _ HS.out hown' hgrow hnil⟩
            case measure => simp [intOf]; omega
    · obtain rfl : k = p.size := by omega
      have ht := hR.text
      clear hlen hlen2
      go_wp2
      go_ret
      exact ⟨rfl, hR.2.1⟩
end Go.Proofs.Qxb6604302aDoor
