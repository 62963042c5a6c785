/-
  The shelf's contracts at this dump, in plain words, as the kit's tools lay them.
-/
import Derived.Shelf.Strings.Builder1
import Derived.Shelf.Strings.Builder2
import Derived.Shelf.Strings.OnBuilder
import Derived.Shelf.Small.Wraps
import Derived.Shelf.Strings.Search1
import Derived.Shelf.Strings.Search2
import Derived.Shelf.Strings.Search3
import Derived.Shelf.Strings.Cut
import Derived.Shelf.Strings.Count
import Derived.Shelf.LaysM
import Derived.Shelf.Strings.Shaped
import Derived.Shelf.Strings.Prefix
import Derived.Shelf.Strings.Split
import Derived.Shelf.Strings.SplitShaped
import Derived.Shelf.Unicode.DecodeSlow
import Derived.Test.Qxb6604302aDoorProg
namespace Go.Proofs
open Go.Shelf
def Tryd.lays156_ren : Go.Shelf.Ren := ⟨fun | 156 => 17 | 165 => 25 | 166 => 26 | 169 => 27 | 240 => 34 | 241 => 35 | 276 => 46 | 277 => 47 | n => n, fun | 31 => 27 | 9 => 9 | 3 => 3 | 4 => 4 | 0 => 0 | 20 => 20 | 72 => 43 | 76 => 47 | 70 => 41 | 37 => 32 | 75 => 46 | 127 => 52 | 164 => 58 | 5 => 5 | 80 => 49 | n => n, fun | n => n⟩
theorem Tryd.lays156 : Go.Proofs.Lays.n156 Tryd.prog Tryd.lays156_ren := {
  mixed := by kernel_rfl
  f156 := Tryd.func17.trans (congrArg some (by kernel_rfl))
  f165 := Tryd.func25.trans (congrArg some (by kernel_rfl))
  f166 := Tryd.func26.trans (congrArg some (by kernel_rfl))
  f169 := Tryd.func27.trans (congrArg some (by kernel_rfl))
  f240 := Tryd.func34.trans (congrArg some (by kernel_rfl))
  f241 := Tryd.func35.trans (congrArg some (by kernel_rfl))
  f276 := Tryd.func46.trans (congrArg some (by kernel_rfl))
  f277 := Tryd.func47.trans (congrArg some (by kernel_rfl))
  t0 := Tryd.underlying0
  a0 := Tryd.isAgg0
  z0 := Tryd.sizeOf0
  v0 := Tryd.zeroValue0
  t3 := Tryd.underlying3
  a3 := Tryd.isAgg3
  z3 := Tryd.sizeOf3
  v3 := Tryd.zeroValue3
  t4 := Tryd.underlying4
  a4 := Tryd.isAgg4
  z4 := Tryd.sizeOf4
  v4 := Tryd.zeroValue4
  t9 := Tryd.underlying9
  a9 := Tryd.isAgg9
  z9 := Tryd.sizeOf9
  v9 := Tryd.zeroValue9
  t20 := Tryd.underlying20
  a20 := Tryd.isAgg20
  z20 := Tryd.sizeOf20
  v20 := Tryd.zeroValue20
  t31 := Tryd.underlying27
  a31 := Tryd.isAgg27
  z31 := Tryd.sizeOf27
  v31 := Tryd.zeroValue27
  t37 := Tryd.underlying32
  a37 := Tryd.isAgg32
  z37 := Tryd.sizeOf32
  v37 := Tryd.zeroValue32
  t70 := Tryd.underlying41
  a70 := Tryd.isAgg41
  z70 := Tryd.sizeOf41
  v70 := Tryd.zeroValue41
  t72 := Tryd.underlying43
  a72 := Tryd.isAgg43
  z72 := Tryd.sizeOf43
  v72 := Tryd.zeroValue43
  t75 := Tryd.underlying46
  a75 := Tryd.isAgg46
  z75 := Tryd.sizeOf46
  v75 := Tryd.zeroValue46
  t76 := Tryd.underlying47
  a76 := Tryd.isAgg47
  z76 := Tryd.sizeOf47
  v76 := Tryd.zeroValue47
  t127 := Tryd.underlying52
  a127 := Tryd.isAgg52
  z127 := Tryd.sizeOf52
  v127 := Tryd.zeroValue52
  t164 := Tryd.underlying58
  a164 := Tryd.isAgg58
  z164 := Tryd.sizeOf58
  v164 := Tryd.zeroValue58 }
theorem Tryd.Builder_Extra_156 : Builder.Extra Tryd.prog Tryd.lays156_ren := {
  sizeBuilder := by kernel_rfl
  liesBuilder := by kernel_rfl
  t5 := Tryd.underlying5
  a5 := Tryd.isAgg5
  z5 := Tryd.sizeOf5
  v5 := Tryd.zeroValue5
  infoByte := by kernel_rfl
  cellsByte := by kernel_rfl
  sizeByte := by kernel_rfl
  neB5 := by decide }
open Go.RowKit in
theorem Tryd.strings_Join (bk o c : Nat) (xs : List ByteArray) (sep : ByteArray) (w : World) (hcells : ∀ (j : Nat) x, xs[j]? = some x → w.cell? ⟨bk, o + j, none⟩ = some (.string x)) (hbk : bk < w.heap.size) (hN : xs.length ≤ 140737488355328) (hcap : xs.length ≤ c) (hlen : (Lib.join (xs.map (·.data.toList)) sep.data.toList).length ≤ 140737488355328) :
    Calls Tryd.prog 17 #[.slice (some ⟨bk, o, none⟩) xs.length c, .string sep] w fun e w' => e = .returned (.string ⟨(Lib.join (xs.map (·.data.toList)) sep.data.toList).toArray⟩) ∧ Below w.heap.size w w' := Any.strings_Join Tryd.lays156 Tryd.Builder_Extra_156 bk o c xs sep w hcells hbk hN hcap hlen
def Tryd.lays103_ren : Go.Shelf.Ren := ⟨fun | 103 => 18 | 210 => 28 | 206 => 36 | n => n, fun | 9 => 9 | 4 => 4 | 24 => 33 | 3 => 3 | n => n, fun | n => n⟩
theorem Tryd.lays103 : Go.Proofs.Lays.n103 Tryd.prog Tryd.lays103_ren := {
  mixed := by kernel_rfl
  f103 := Tryd.func18.trans (congrArg some (by kernel_rfl))
  f206 := Tryd.func36.trans (congrArg some (by kernel_rfl))
  f210 := Tryd.func28.trans (congrArg some (by kernel_rfl))
  t3 := Tryd.underlying3
  a3 := Tryd.isAgg3
  z3 := Tryd.sizeOf3
  v3 := Tryd.zeroValue3
  t4 := Tryd.underlying4
  a4 := Tryd.isAgg4
  z4 := Tryd.sizeOf4
  v4 := Tryd.zeroValue4
  t9 := Tryd.underlying9
  a9 := Tryd.isAgg9
  z9 := Tryd.sizeOf9
  v9 := Tryd.zeroValue9
  t24 := Tryd.underlying33
  a24 := Tryd.isAgg33
  z24 := Tryd.sizeOf33
  v24 := Tryd.zeroValue33 }
open Go.RowKit in
theorem Tryd.strings_CutPrefix (s p : ByteArray) (w : World) :
    Calls Tryd.prog 18 #[.string s, .string p] w fun e w' => e = .returned (.tuple #[.string ⟨(Lib.trimPrefix s.data.toList p.data.toList).toArray⟩, .bool (Lib.hasPrefix s.data.toList p.data.toList)]) ∧ w' = w := Any.strings_CutPrefix Tryd.lays103 s p w
def Tryd.lays143_ren : Go.Shelf.Ren := ⟨fun | 143 => 22 | 219 => 31 | 217 => 40 | 225 => 41 | 224 => 42 | 267 => 43 | 266 => 49 | 314 => 50 | n => n, fun | 9 => 9 | 3 => 3 | 4 => 4 | 5 => 5 | 46 => 56 | 146 => 62 | 51 => 61 | n => n, fun | 1 => 0 | n => n⟩
theorem Tryd.lays143 : Go.Proofs.Lays.n143 Tryd.prog Tryd.lays143_ren := {
  mixed := by kernel_rfl
  f143 := Tryd.func22.trans (congrArg some (by kernel_rfl))
  f217 := Tryd.func40.trans (congrArg some (by kernel_rfl))
  f219 := Tryd.func31.trans (congrArg some (by kernel_rfl))
  f224 := Tryd.func42.trans (congrArg some (by kernel_rfl))
  f225 := Tryd.func41.trans (congrArg some (by kernel_rfl))
  f266 := Tryd.func49.trans (congrArg some (by kernel_rfl))
  f267 := Tryd.func43.trans (congrArg some (by kernel_rfl))
  f314 := Tryd.func50.trans (congrArg some (by kernel_rfl))
  t3 := Tryd.underlying3
  a3 := Tryd.isAgg3
  z3 := Tryd.sizeOf3
  v3 := Tryd.zeroValue3
  t4 := Tryd.underlying4
  a4 := Tryd.isAgg4
  z4 := Tryd.sizeOf4
  v4 := Tryd.zeroValue4
  t5 := Tryd.underlying5
  a5 := Tryd.isAgg5
  z5 := Tryd.sizeOf5
  v5 := Tryd.zeroValue5
  t9 := Tryd.underlying9
  a9 := Tryd.isAgg9
  z9 := Tryd.sizeOf9
  v9 := Tryd.zeroValue9
  t46 := Tryd.underlying56
  a46 := Tryd.isAgg56
  z46 := Tryd.sizeOf56
  v46 := Tryd.zeroValue56
  t51 := Tryd.underlying61
  a51 := Tryd.isAgg61
  z51 := Tryd.sizeOf61
  v51 := Tryd.zeroValue61
  t146 := Tryd.underlying62
  a146 := Tryd.isAgg62
  z146 := Tryd.sizeOf62
  v146 := Tryd.zeroValue62
  g1 := by kernel_rfl }
open Go.RowKit Go.Lib in
theorem Tryd.strings_Index_one (s : ByteArray) (c : UInt8) (w : World) :
    Calls Tryd.prog 22 #[.string s, .string ⟨#[c]⟩] w fun e w' => e = .returned (.int .i64 (Lib.indexByte s.data.toList c)) ∧ w' = w := Any.strings_Index_one Tryd.lays143 s c w
def Tryd.lays144_ren : Go.Shelf.Ren := ⟨fun | 144 => 14 | 143 => 22 | 219 => 31 | 217 => 40 | 225 => 41 | 224 => 42 | 267 => 43 | 266 => 49 | 314 => 50 | n => n, fun | 9 => 9 | 4 => 4 | 3 => 3 | 5 => 5 | 46 => 56 | 146 => 62 | 51 => 61 | n => n, fun | 1 => 0 | n => n⟩
theorem Tryd.lays144 : Go.Proofs.Lays.n144 Tryd.prog Tryd.lays144_ren := {
  mixed := by kernel_rfl
  f143 := Tryd.func22.trans (congrArg some (by kernel_rfl))
  f144 := Tryd.func14.trans (congrArg some (by kernel_rfl))
  f217 := Tryd.func40.trans (congrArg some (by kernel_rfl))
  f219 := Tryd.func31.trans (congrArg some (by kernel_rfl))
  f224 := Tryd.func42.trans (congrArg some (by kernel_rfl))
  f225 := Tryd.func41.trans (congrArg some (by kernel_rfl))
  f266 := Tryd.func49.trans (congrArg some (by kernel_rfl))
  f267 := Tryd.func43.trans (congrArg some (by kernel_rfl))
  f314 := Tryd.func50.trans (congrArg some (by kernel_rfl))
  t3 := Tryd.underlying3
  a3 := Tryd.isAgg3
  z3 := Tryd.sizeOf3
  v3 := Tryd.zeroValue3
  t4 := Tryd.underlying4
  a4 := Tryd.isAgg4
  z4 := Tryd.sizeOf4
  v4 := Tryd.zeroValue4
  t5 := Tryd.underlying5
  a5 := Tryd.isAgg5
  z5 := Tryd.sizeOf5
  v5 := Tryd.zeroValue5
  t9 := Tryd.underlying9
  a9 := Tryd.isAgg9
  z9 := Tryd.sizeOf9
  v9 := Tryd.zeroValue9
  t46 := Tryd.underlying56
  a46 := Tryd.isAgg56
  z46 := Tryd.sizeOf56
  v46 := Tryd.zeroValue56
  t51 := Tryd.underlying61
  a51 := Tryd.isAgg61
  z51 := Tryd.sizeOf61
  v51 := Tryd.zeroValue61
  t146 := Tryd.underlying62
  a146 := Tryd.isAgg62
  z146 := Tryd.sizeOf62
  v146 := Tryd.zeroValue62
  g1 := by kernel_rfl }
open Go.RowKit Go.Lib in
theorem Tryd.strings_Contains_one (s : ByteArray) (c : UInt8) (w : World) :
    Calls Tryd.prog 14 #[.string s, .string ⟨#[c]⟩] w fun e w' => e = .returned (.bool (decide (0 ≤ Lib.indexByte s.data.toList c))) ∧ w' = w := Any.strings_Contains_one Tryd.lays144 s c w
open Go.RowKit Go.Lib in
theorem Tryd.strings_Contains (s sub : ByteArray) (m : Int) (w : World) (hs : s.size < 4294967281) (hm : w.cell? ⟨0, 0, none⟩ = some (.int .i64 m)) :
    Calls Tryd.prog 14 #[.string s, .string sub] w fun e w' => e = .returned (.bool (Lib.contains s.data.toList sub.data.toList)) ∧ w' = w := Any.strings_Contains Tryd.lays144 s sub m w hs hm
def Tryd.lays145_ren : Go.Shelf.Ren := ⟨fun | 145 => 16 | 220 => 24 | 219 => 31 | 217 => 40 | 225 => 41 | 224 => 42 | 267 => 43 | 266 => 49 | 314 => 50 | n => n, fun | 9 => 9 | 4 => 4 | 59 => 29 | 3 => 3 | 5 => 5 | 46 => 56 | 146 => 62 | 51 => 61 | n => n, fun | 1 => 0 | n => n⟩
theorem Tryd.lays145 : Go.Proofs.Lays.n145 Tryd.prog Tryd.lays145_ren := {
  mixed := by kernel_rfl
  f145 := Tryd.func16.trans (congrArg some (by kernel_rfl))
  f217 := Tryd.func40.trans (congrArg some (by kernel_rfl))
  f219 := Tryd.func31.trans (congrArg some (by kernel_rfl))
  f220 := Tryd.func24.trans (congrArg some (by kernel_rfl))
  f224 := Tryd.func42.trans (congrArg some (by kernel_rfl))
  f225 := Tryd.func41.trans (congrArg some (by kernel_rfl))
  f266 := Tryd.func49.trans (congrArg some (by kernel_rfl))
  f267 := Tryd.func43.trans (congrArg some (by kernel_rfl))
  f314 := Tryd.func50.trans (congrArg some (by kernel_rfl))
  t3 := Tryd.underlying3
  a3 := Tryd.isAgg3
  z3 := Tryd.sizeOf3
  v3 := Tryd.zeroValue3
  t4 := Tryd.underlying4
  a4 := Tryd.isAgg4
  z4 := Tryd.sizeOf4
  v4 := Tryd.zeroValue4
  t5 := Tryd.underlying5
  a5 := Tryd.isAgg5
  z5 := Tryd.sizeOf5
  v5 := Tryd.zeroValue5
  t9 := Tryd.underlying9
  a9 := Tryd.isAgg9
  z9 := Tryd.sizeOf9
  v9 := Tryd.zeroValue9
  t46 := Tryd.underlying56
  a46 := Tryd.isAgg56
  z46 := Tryd.sizeOf56
  v46 := Tryd.zeroValue56
  t51 := Tryd.underlying61
  a51 := Tryd.isAgg61
  z51 := Tryd.sizeOf61
  v51 := Tryd.zeroValue61
  t59 := Tryd.underlying29
  a59 := Tryd.isAgg29
  z59 := Tryd.sizeOf29
  v59 := Tryd.zeroValue29
  t146 := Tryd.underlying62
  a146 := Tryd.isAgg62
  z146 := Tryd.sizeOf62
  v146 := Tryd.zeroValue62
  g1 := by kernel_rfl }
open Go.RowKit Go.Lib in
theorem Tryd.strings_Cut (s sep : ByteArray) (m : Int) (w : World) (hs : s.size < 4294967281) (hm : w.cell? ⟨0, 0, none⟩ = some (.int .i64 m)) :
    Calls Tryd.prog 16 #[.string s, .string sep] w fun e w' => e = .returned (.tuple #[.string ⟨(Lib.cut s.data.toList sep.data.toList).1.toArray⟩, .string ⟨(Lib.cut s.data.toList sep.data.toList).2.1.toArray⟩, .bool (Lib.cut s.data.toList sep.data.toList).2.2]) ∧ ∃ n, w' = w.drewN n := Any.strings_Cut Tryd.lays145 s sep m w hs hm
def Tryd.lays102_ren : Go.Shelf.Ren := ⟨fun | 102 => 19 | 209 => 29 | 207 => 37 | n => n, fun | 9 => 9 | 4 => 4 | 3 => 3 | n => n, fun | n => n⟩
theorem Tryd.lays102 : Go.Proofs.Lays.n102 Tryd.prog Tryd.lays102_ren := {
  mixed := by kernel_rfl
  f102 := Tryd.func19.trans (congrArg some (by kernel_rfl))
  f207 := Tryd.func37.trans (congrArg some (by kernel_rfl))
  f209 := Tryd.func29.trans (congrArg some (by kernel_rfl))
  t3 := Tryd.underlying3
  a3 := Tryd.isAgg3
  z3 := Tryd.sizeOf3
  v3 := Tryd.zeroValue3
  t4 := Tryd.underlying4
  a4 := Tryd.isAgg4
  z4 := Tryd.sizeOf4
  v4 := Tryd.zeroValue4
  t9 := Tryd.underlying9
  a9 := Tryd.isAgg9
  z9 := Tryd.sizeOf9
  v9 := Tryd.zeroValue9 }
open Go.RowKit Go.Lib in
theorem Tryd.strings_TrimSuffix (s p : ByteArray) (w : World) (hs : s.size ≤ 9223372036854775807) :
    Calls Tryd.prog 19 #[.string s, .string p] w fun e w' => e = .returned (.string ⟨(Lib.trimSuffix s.data.toList p.data.toList).toArray⟩) ∧ w' = w := Any.strings_TrimSuffix Tryd.lays102 s p w hs
def Tryd.lays146_ren : Go.Shelf.Ren := ⟨fun | 146 => 15 | 221 => 23 | 268 => 32 | 138 => 33 | 143 => 22 | 195 => 44 | 197 => 39 | 218 => 45 | 219 => 31 | 260 => 48 | 217 => 40 | 225 => 41 | 224 => 42 | 267 => 43 | 266 => 49 | 314 => 50 | n => n, fun | 9 => 9 | 31 => 27 | 3 => 3 | 4 => 4 | 0 => 0 | 105 => 53 | 21 => 21 | 5 => 5 | 46 => 56 | 119 => 64 | 139 => 67 | 138 => 66 | 146 => 62 | 51 => 61 | n => n, fun | 1 => 0 | 3 => 1 | 4 => 2 | n => n⟩
theorem Tryd.lays146 : Go.Proofs.Lays.n146 Tryd.prog Tryd.lays146_ren := {
  mixed := by kernel_rfl
  f138 := Tryd.func33.trans (congrArg some (by kernel_rfl))
  f143 := Tryd.func22.trans (congrArg some (by kernel_rfl))
  f146 := Tryd.func15.trans (congrArg some (by kernel_rfl))
  f195 := Tryd.func44.trans (congrArg some (by kernel_rfl))
  f197 := Tryd.func39.trans (congrArg some (by kernel_rfl))
  f217 := Tryd.func40.trans (congrArg some (by kernel_rfl))
  f218 := Tryd.func45.trans (congrArg some (by kernel_rfl))
  f219 := Tryd.func31.trans (congrArg some (by kernel_rfl))
  f221 := Tryd.func23.trans (congrArg some (by kernel_rfl))
  f224 := Tryd.func42.trans (congrArg some (by kernel_rfl))
  f225 := Tryd.func41.trans (congrArg some (by kernel_rfl))
  f260 := Tryd.func48.trans (congrArg some (by kernel_rfl))
  f266 := Tryd.func49.trans (congrArg some (by kernel_rfl))
  f267 := Tryd.func43.trans (congrArg some (by kernel_rfl))
  f268 := Tryd.func32.trans (congrArg some (by kernel_rfl))
  f314 := Tryd.func50.trans (congrArg some (by kernel_rfl))
  t0 := Tryd.underlying0
  a0 := Tryd.isAgg0
  z0 := Tryd.sizeOf0
  v0 := Tryd.zeroValue0
  t3 := Tryd.underlying3
  a3 := Tryd.isAgg3
  z3 := Tryd.sizeOf3
  v3 := Tryd.zeroValue3
  t4 := Tryd.underlying4
  a4 := Tryd.isAgg4
  z4 := Tryd.sizeOf4
  v4 := Tryd.zeroValue4
  t5 := Tryd.underlying5
  a5 := Tryd.isAgg5
  z5 := Tryd.sizeOf5
  v5 := Tryd.zeroValue5
  t9 := Tryd.underlying9
  a9 := Tryd.isAgg9
  z9 := Tryd.sizeOf9
  v9 := Tryd.zeroValue9
  t21 := Tryd.underlying21
  a21 := Tryd.isAgg21
  z21 := Tryd.sizeOf21
  v21 := Tryd.zeroValue21
  t31 := Tryd.underlying27
  a31 := Tryd.isAgg27
  z31 := Tryd.sizeOf27
  v31 := Tryd.zeroValue27
  t46 := Tryd.underlying56
  a46 := Tryd.isAgg56
  z46 := Tryd.sizeOf56
  v46 := Tryd.zeroValue56
  t51 := Tryd.underlying61
  a51 := Tryd.isAgg61
  z51 := Tryd.sizeOf61
  v51 := Tryd.zeroValue61
  t105 := Tryd.underlying53
  a105 := Tryd.isAgg53
  z105 := Tryd.sizeOf53
  v105 := Tryd.zeroValue53
  t119 := Tryd.underlying64
  a119 := Tryd.isAgg64
  z119 := Tryd.sizeOf64
  t138 := Tryd.underlying66
  a138 := Tryd.isAgg66
  z138 := Tryd.sizeOf66
  v138 := Tryd.zeroValue66
  t139 := Tryd.underlying67
  a139 := Tryd.isAgg67
  z139 := Tryd.sizeOf67
  v139 := Tryd.zeroValue67
  t146 := Tryd.underlying62
  a146 := Tryd.isAgg62
  z146 := Tryd.sizeOf62
  v146 := Tryd.zeroValue62
  g1 := by kernel_rfl
  g3 := by kernel_rfl
  g4 := by kernel_rfl }
open Go.RowKit Go.Lib in
theorem Tryd.strings_Split (s sep : ByteArray) (m : Int) (w : World) (hs : s.size < 4294967281) (hm : w.cell? ⟨0, 0, none⟩ = some (.int .i64 m)) (h1 : 1 ≤ sep.size) :
    Calls Tryd.prog 15 #[.string s, .string sep] w fun e w' =>
      e = .returned (.slice (some ⟨w.heap.size, 0, none⟩) (Lib.countB s sep + 1) (Lib.countB s sep + 1)) ∧ w' = w.alloc (.cells ((Lib.splitB sep 0 (Lib.countB s sep) s).map Value.string).toArray 9) := Any.strings_Split Tryd.lays146 (by kernel_rfl) s sep m w hs hm h1
end Go.Proofs
