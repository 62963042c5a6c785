/-
  The walk of 'zzModelReadDecimal': the digits that count.
-/
import Derived.Test.Qxb6600799aDoorFin1
import Derived.OwnWalk
import Derived.Deep.OwnRows
namespace Go.Proofs.Qxb6600799aDoor
open Go.RowKit Go.Shelf
set_option linter.unusedVariables false

theorem Tryd.info5 : (Tryd.prog.info? 5).map (fun i => (i.zero, i.size, i.bytes)) = some (some (.int .u8 0), 1, 1) := by kernel_rfl

/-- The buffer behind k rounds. -/
def bufF (D : List UInt8) (k : Nat) (j : Nat) : Value := if j < k then .int .u8 ((D.getD j 0).toNat : Int) else .int .u8 0

theorem bufF_next {D : List UInt8} {k : Nat} {c : UInt8} (h : D[k]? = some c) (i : Nat) : (if i = k then Value.int .u8 (c.toNat : Int) else bufF D k i) = bufF D (k + 1) i := by
  unfold bufF
  by_cases hi : i = k
  · subst hi; rw [if_pos rfl, if_pos (by omega)]; simp [List.getD, h]
  · rw [if_neg hi]
    by_cases h2 : i < k
    · rw [if_pos h2, if_pos (by omega)]
    · rw [if_neg h2, if_neg (by omega)]

theorem add0 (b j : Nat) : (⟨b, 0, none⟩ : Addr).add j = ⟨b, j, none⟩ := by
  unfold Addr.add
  by_cases h : j = 0
  · rw [if_pos h, h]
  · rw [if_neg h, Nat.zero_add]

/-- What the two marks are behind the digits a. -/
def FL (a : List UInt8) (x y : Int) : Prop := (Pl.upto a = 0 ∧ x = -1 ∧ y = -1) ∨ (Pl.upto a ≠ 0 ∧ x = (Pl.lead a : Int) ∧ y = (Pl.upto a : Int) - 1)
theorem FL.nil : FL [] (-1) (-1) := Or.inl ⟨rfl, rfl, rfl⟩
theorem FL.zero {a : List UInt8} {x y : Int} (h : FL a x y) : FL (a ++ [48]) x y := by
  rcases h with ⟨h1, h2, h3⟩ | ⟨h1, h2, h3⟩
  · exact Or.inl ⟨by rw [upto_z]; exact h1, h2, h3⟩
  · exact Or.inr ⟨by rw [upto_z]; exact h1, by rw [lead_keep a 48 h1]; exact h2, by rw [upto_z]; exact h3⟩
theorem FL.first {a : List UInt8} (h : Pl.upto a = 0) {c : UInt8} (hc : c ≠ 48) : FL (a ++ [c]) a.length a.length :=
  Or.inr ⟨by rw [upto_nz a c hc]; omega, by rw [lead_new a c h hc], by rw [upto_nz a c hc]; omega⟩
theorem FL.more {a : List UInt8} (h : Pl.upto a ≠ 0) {c : UInt8} (hc : c ≠ 48) : FL (a ++ [c]) (Pl.lead a) a.length :=
  Or.inr ⟨by rw [upto_nz a c hc]; omega, by rw [lead_keep a c h], by rw [upto_nz a c hc]; omega⟩

set_option maxRecDepth 100000 in
set_option maxHeartbeats 2000000 in
theorem fin_any (s : ByteArray) (ws fs : Nat) (mb : Bool) (W F : List UInt8) (ev : Int) (A : Pl.Ans) (w : World) (hs : s.size ≤ 1048576) (hws : ws ≤ 1) (hev1 : -1048576 ≤ ev) (hev2 : ev ≤ 1048576) (hw : ws + W.length ≤ s.size) (hf : fs + F.length ≤ s.size) (hW : (s.data.toList.drop ws).take W.length = W) (hF : (s.data.toList.drop fs).take F.length = F)
    (hA : A = Pl.finM mb W F ev) (tot : Int) (htot : tot = (W.length : Int) + (F.length : Int)) (c0 : Code) (hc0 : nthO 15 Tryd.f8.body = c0) {x1 x2 x3 x4 x5 x7 x14 x15 x17 x18 x19 x20 x21 x22 x23 x24 x25 x26 x27 x28 x29 x30 x31 x32 x33 x34 x35 x36 x37 x38 x39 x40 x41 x42 x43 x44 x45 x46 x47 x48 x49 x50 x51 x52 x53 x54 x55 x56 x57 x58 x59 x60 x61 x62 x63 x64 x65 x66 x67 x68 x69 x70 x71 x72 x73 x74 x75 x76 x77 x78 x79 x80 x81 x82 x83 x84 x85 x86 x87 x88 x89 x90 x91 x92 x93 x94 x95 x96 x97 x98 x99 x100 x101 x102 x103 x104 x105 x106 x107 x108 x109 x110 x111 x112 x113 x114 x115 x116 x117 x118 x119 x120 x121 x122 x123 x124 x125 x126 x127 x128 x129 x130 x131 x132 x133 x134 x135 x136 x137 x138 x139 x140 x141 x142 x143 x144 x145 x146 x147 x148 x149 x150 x151 x152 x153 x154 x155 x156 x157 x158 x159 x160 x161 x162 x163 x164 x165 x166 x167 x168 x169 x170 x171 x172 x173 x174 x175 x176 x177 x178 x179 x180 x181 x182 x183 x184 x185 x186 x187 x188 x189 x190 x191 x192 x193 x194 x195 x196 x197 x198 x199 x200 x201 x202 x203 x204 x205 x206 x207 x208 x209 x210 x211 x212 x213 x214 x215 x216 x217 x218 x219 x220 x221 : Value} :
    Code.wp Tryd.prog c0 (bodyPost Tryd.prog Tryd.f8 fun e w' => e = .returned (tupV A) ∧ Below w.heap.size w w') ⟨(.string s :: x1 :: x2 :: x3 :: x4 :: x5 :: .int .i64 s.size :: x7 :: .bool mb :: .int .i64 ws :: .int .i64 ((ws : Int) + (W.length : Int)) :: .int .i64 fs :: .int .i64 ((fs : Int) + (F.length : Int)) :: .int .i64 ev :: x14 :: x15 :: .int .i64 tot :: x17 :: x18 :: x19 :: x20 :: x21 :: x22 :: x23 :: x24 :: x25 :: x26 :: x27 :: x28 :: x29 :: x30 :: x31 :: x32 :: x33 :: x34 :: x35 :: x36 :: x37 :: x38 :: x39 :: x40 :: x41 :: x42 :: x43 :: x44 :: x45 :: x46 :: x47 :: x48 :: x49 :: x50 :: x51 :: x52 :: x53 :: x54 :: x55 :: x56 :: x57 :: x58 :: x59 :: x60 :: x61 :: x62 :: x63 :: x64 :: x65 :: x66 :: x67 :: x68 :: x69 :: x70 :: x71 :: x72 :: x73 :: x74 :: x75 :: x76 :: x77 :: x78 :: x79 :: x80 :: x81 :: x82 :: x83 :: x84 :: x85 :: x86 :: x87 :: x88 :: x89 :: x90 :: x91 :: x92 :: x93 :: x94 :: x95 :: x96 :: x97 :: x98 :: x99 :: x100 :: x101 :: x102 :: x103 :: x104 :: x105 :: x106 :: x107 :: x108 :: x109 :: x110 :: x111 :: x112 :: x113 :: x114 :: x115 :: x116 :: x117 :: x118 :: x119 :: x120 :: x121 :: x122 :: x123 :: x124 :: x125 :: x126 :: x127 :: x128 :: x129 :: x130 :: x131 :: x132 :: x133 :: x134 :: x135 :: x136 :: x137 :: x138 :: x139 :: x140 :: x141 :: x142 :: x143 :: x144 :: x145 :: x146 :: x147 :: x148 :: x149 :: x150 :: x151 :: x152 :: x153 :: x154 :: x155 :: x156 :: x157 :: x158 :: x159 :: x160 :: x161 :: x162 :: x163 :: x164 :: x165 :: x166 :: x167 :: x168 :: x169 :: x170 :: x171 :: x172 :: x173 :: x174 :: x175 :: x176 :: x177 :: x178 :: x179 :: x180 :: x181 :: x182 :: x183 :: x184 :: x185 :: x186 :: x187 :: x188 :: x189 :: x190 :: x191 :: x192 :: x193 :: x194 :: x195 :: x196 :: x197 :: x198 :: x199 :: x200 :: x201 :: x202 :: x203 :: x204 :: x205 :: x206 :: x207 :: x208 :: x209 :: x210 :: x211 :: x212 :: x213 :: x214 :: x215 :: x216 :: x217 :: x218 :: x219 :: x220 :: x221 :: []).toArray, []⟩ w := by
  have HA := hid_mk hA
  clear hA
  have hmant := fun (p : Nat) (c : UInt8) (w1 : World) (hc : (W ++ F)[p]? = some c) => mant_any s ws fs W F p c w1 hs hw hf hW hF hc
  have HM := hid_mk hmant
  clear hmant hW hF
  unfold Pl.finM at HA
  obtain ⟨m, hm⟩ : ∃ m, W ++ F = m := ⟨_, rfl⟩
  have hml : W.length + F.length = m.length := by rw [← hm]; simp
  rw [hm] at HA HM
  clear hm
  have hml2 : m.length ≤ 2097152 := by omega
  obtain rfl : tot = (m.length : Int) := by omega
  clear htot
  simp only [Tryd.f8, nthO, nth] at hc0
  subst hc0
  go_wp2_with fail
  go_loopg [17, 18, 19] m.length (fun gf x y p wr => ∃ (k : Nat) (a b : Int), k + gf = m.length ∧ x = .int .i64 a ∧ y = .int .i64 b ∧ p = .int .i64 k ∧ FL (m.take k) a b ∧ w = wr)
  case atStart => exact ⟨0, -1, -1, by omega, rfl, rfl, rfl, FL.nil, rfl⟩
  case round =>
    obtain ⟨k, a, b, hkg, rfl, rfl, rfl, hfl, rfl⟩ := hrel
    by_cases hlt : k < m.length
    · obtain ⟨g', rfl⟩ : ∃ g', gk = g' + 1 := ⟨gk - 1, by omega⟩
      obtain ⟨c, hc⟩ : ∃ c, m[k]? = some c := ⟨_, List.getElem?_eq_getElem hlt⟩
      have htk : m.take (k + 1) = m.take k ++ [c] := by
        rw [List.take_add_one, hc]; rfl
      have hlen : (m.take k).length = k := by rw [List.length_take]; omega
      have HC := hid_mk hc
      clear hc
      by_cases h48 : c = 48
      · have b1 : ((c.toNat : Int) == 48) = true := by rw [h48]; rfl
        have HN : Hid (FL (m.take (k + 1)) a b) := hid_mk (by rw [htk, h48]; exact hfl.zero)
        clear htk hlen h48 hfl
        go_wp2_with (go_at_call 14; refine (HM.out _ c _ HC.out).mono ?_; rintro e w2 ⟨rfl, hw⟩; obtain rfl := hw.symm)
        go_roundg g'
        case measure => omega
        case rel => exact ⟨k + 1, a, b, by omega, rfl, rfl, by go_num, HN.out, rfl⟩
      · have b1 : ((c.toNat : Int) == 48) = false := by rw [b8 c 48 48 rfl]; simpa using h48
        rcases hfl with ⟨f1, rfl, rfl⟩ | ⟨f1, f2, f3⟩
        · have HN : Hid (FL (m.take (k + 1)) k k) := hid_mk (by
            have := FL.first f1 (c := c) h48
            rw [hlen] at this
            rw [htk]; exact this)
          clear htk hlen h48 f1
          go_wp2_with (go_at_call 14; refine (HM.out _ c _ HC.out).mono ?_; rintro e w2 ⟨rfl, hw⟩; obtain rfl := hw.symm)
          go_roundg g'
          case measure => omega
          case rel => exact ⟨k + 1, k, k, by omega, rfl, rfl, by go_num, HN.out, rfl⟩
        · have HN : Hid (FL (m.take (k + 1)) a k) := hid_mk (by
            have := FL.more f1 (c := c) h48
            rw [hlen] at this
            rw [htk, f2]; exact this)
          have f4 : 0 ≤ a := by omega
          have f5 : ¬ a < 0 := by omega
          clear htk hlen h48 f1 f2 f3
          go_wp2_with (go_at_call 14; refine (HM.out _ c _ HC.out).mono ?_; rintro e w2 ⟨rfl, hw⟩; obtain rfl := hw.symm)
          go_roundg g'
          case measure => omega
          case rel => exact ⟨k + 1, a, k, by omega, rfl, rfl, by go_num, HN.out, rfl⟩
    · have hk : k = m.length := by omega
      rw [hk, List.take_length] at hfl
      clear hkg hlt
      rcases hfl with ⟨f1, rfl, rfl⟩ | ⟨f1, f2, f3⟩
      · have HF : Hid (A = some (false, [], 0)) := hid_mk (by rw [HA.out, if_pos f1])
        clear HA f1
        go_wp2_with fail
        exact bodyPost_ret (v := tupV (some (false, [], 0))) (by simp [results, Tryd.results8, go_sem, tupV]) rfl ⟨by rw [HF.out], Below.refl _ _⟩
      · have hll := lead_lt _ m rfl f1
        have hul := Pl.upto_le m
        have HF : Hid (A = some (mb, (m.take (Pl.upto m)).drop (Pl.lead m), ev + W.length - 1 - ((Pl.upto m : Int) - 1))) := hid_mk (by rw [HA.out, if_neg f1])
        have hDl : ((m.take (Pl.upto m)).drop (Pl.lead m)).length = Pl.upto m - Pl.lead m := by rw [List.length_drop, List.length_take]; omega
        have hDg : ∀ j, j < Pl.upto m - Pl.lead m → ((m.take (Pl.upto m)).drop (Pl.lead m))[j]? = m[Pl.lead m + j]? := fun j hj => by
          rw [List.getElem?_drop, List.getElem?_take_of_lt (by omega)]
        clear HA f1
        obtain ⟨D, hD⟩ : ∃ D, (m.take (Pl.upto m)).drop (Pl.lead m) = D := ⟨_, rfl⟩
        rw [hD] at HF hDl hDg
        clear hD
        obtain ⟨n, hn⟩ : ∃ n, Pl.upto m = Pl.lead m + n + 1 := ⟨Pl.upto m - Pl.lead m - 1, by omega⟩
        rw [hn] at HF hDl hDg hul hll f3
        clear hn
        generalize Pl.lead m = L at *
        have f4 : b = (L : Int) + (n : Int) := by omega
        have hDl2 : D.length = n + 1 := by omega
        have HG : Hid (∀ j, j < n + 1 → D[j]? = m[L + j]?) := hid_mk fun j hj => hDg j (by omega)
        clear hDl hDg f3 hll
        subst f2 f4
        have hyx : (L : Int) + (n : Int) - (L : Int) = (n : Int) := by omega
        have hmk : ∀ w : World, (Instr.makeSlice 32 (.int .i64 ((n : Int) + 1)) (.int .i64 ((n : Int) + 1))).run Tryd.prog w = .ok (.slice (some ⟨w.heap.size, 0, none⟩) (n + 1) (n + 1)) (w.alloc (.cells (madeCells #[.int .u8 0] (n + 1)) 5)) :=
          fun w => run_make_row' (P := Tryd.prog) 32 5 (.int .u8 0) 1 Tryd.underlying32 Tryd.info5 rfl .i64 .i64 (n + 1) (by omega) (by omega) w
        have hL0 : ¬ (L : Int) < 0 := by omega
        go_wp2_with fail
        go_loopg [21] (n + 1) (fun gf p wr => ∃ k : Nat, k + gf = n + 1 ∧ p = .int .i64 ((L + k : Nat) : Int) ∧ wr.rowIs w.heap.size 5 (n + 1) (bufF D k) ∧ Below w.heap.size w wr)
        case atStart => exact ⟨0, by omega, rfl, (World.rowIs_made w (.int .u8 0) (n + 1) 5).congr (fun i hi => by simp [bufF]), (Below.refl _ _).alloc (Nat.le_refl _) _⟩
        case round =>
          obtain ⟨k, hkg, rfl, hrow, hbel⟩ := hrel
          by_cases hlt : k < n + 1
          · obtain ⟨g', rfl⟩ : ∃ g', gk = g' + 1 := ⟨gk - 1, by omega⟩
            obtain ⟨c, hc⟩ : ∃ c, m[L + k]? = some c := ⟨_, List.getElem?_eq_getElem (by omega)⟩
            have HC := hid_mk hc
            have HD : Hid (D[k]? = some c) := hid_mk ((HG.out k hlt).trans hc)
            have hcell := hrow.cell hlt
            have hfz := hrow.frozen k
            clear hc
            go_wp2_with (go_at_call 14; refine (HM.out (L + k) c _ HC.out).mono ?_; rintro e w2 ⟨rfl, hw⟩; obtain rfl := hw.symm)
            go_roundg g'
            case measure => omega
            case rel =>
              refine ⟨k + 1, by omega, by go_num, ?_, ?_⟩
              · exact (hrow.set k _).congr (fun i hi => bufF_next HD.out i)
              · exact hbel.setCell (p := ⟨w.heap.size, k, none⟩) (Nat.le_refl _) _
          · have hk : k = n + 1 := by omega
            subst hk
            have hcv : ∀ N, (convert 32 9 (.slice (some ⟨w.heap.size, 0, none⟩) (n + 1) (n + 1))).run Tryd.prog (wr.drewN N) = .ok (.string ⟨D.toArray⟩) (wr.drewN N) := fun N => by
              have h := run_convert_bytes_back (P := Tryd.prog) (wr.drewN N) 32 9 5 ⟨w.heap.size, 0, none⟩ (n + 1) D Tryd.underlying32 Tryd.underlying5 Tryd.underlying9 (fun j hj => by
                have h1 : wr.cell? ⟨w.heap.size, j, none⟩ = some (bufF D (n + 1) j) := hrow.cell (by omega)
                have h2 : bufF D (n + 1) j = .int .u8 (D[j].toNat : Int) := by
                  unfold bufF; rw [if_pos (by omega)]; simp [List.getD, List.getElem?_eq_getElem hj]
                rw [h2] at h1
                have e : (⟨w.heap.size, 0, none⟩ : Addr).add j = ⟨w.heap.size, j, none⟩ := add0 _ _
                rw [e]; exact h1)
              rw [hDl2] at h; exact h
            have hcv0 := hcv 0
            have e3 : (ws : Int) + (W.length : Int) - (ws : Int) = (W.length : Int) := by omega
            go_wp2_with fail
            go_quiet (fail)
            go_wp2
            exact bodyPost_ret (v := tupV (some (mb, D, ev + (W.length : Int) - 1 - ((L : Int) + (n : Int))))) (by simp [results, Tryd.results8, go_sem, tupV]) rfl ⟨by
              rw [HF.out]
              have e : ev + (W.length : Int) - 1 - (((L + n + 1 : Nat) : Int) - 1) = ev + (W.length : Int) - 1 - ((L : Int) + (n : Int)) := by omega
              rw [e], bdrew hbel _⟩
end Go.Proofs.Qxb6600799aDoor
