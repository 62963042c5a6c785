/-
  The shelf's contracts at this dump, in plain words, as the kit's tools lay them.
-/
import Derived.Shelf.Strings.Trim
import Derived.Shelf.Small.Utf8
import Derived.Shelf.Small.Strs
import Derived.Shelf.Small.Wraps
import Derived.Shelf.Strings.Search1
import Derived.Shelf.GgClosure.StringsIndexFunc
import Derived.Ground.GgwProg
import Derived.Shelf.GgClosure.StringsIndexFuncTop
import Derived.Shelf.GgClosure.StringsRunes
import Derived.Shelf.Strings.Prefix
import Derived.Shelf.Strings.Runes
import Derived.Shelf.Strings.AsciiSet
import Derived.Shelf.Unicode.DecodeSlow
import Derived.Shelf.Unicode.DecodeAny
import Derived.Shelf.Unicode.DecodeLast
import Derived.Test.Qxb6600799aDoorProg
namespace Go.Proofs
open Go.Shelf
def Tryd.lays161_ren : Go.Shelf.Ren := ⟨fun | 161 => 18 | 231 => 24 | 227 => 25 | 233 => 26 | 235 => 27 | 228 => 33 | 197 => 34 | 151 => 35 | 260 => 37 | 152 => 38 | 137 => 40 | 119 => 41 | 224 => 42 | 225 => 43 | 217 => 44 | 266 => 45 | n => n, fun | 9 => 9 | 4 => 4 | 3 => 3 | 5 => 5 | 117 => 44 | 116 => 43 | 0 => 0 | 124 => 47 | 105 => 50 | 21 => 21 | 119 => 54 | 46 => 55 | 139 => 58 | 138 => 57 | n => n, fun | 3 => 0 | 4 => 1 | n => n⟩
theorem Tryd.lays161 : Go.Proofs.Lays.n161 Tryd.prog Tryd.lays161_ren := {
  mixed := by kernel_rfl
  f119 := Tryd.func41.trans (congrArg some (by kernel_rfl))
  f137 := Tryd.func40.trans (congrArg some (by kernel_rfl))
  f151 := Tryd.func35.trans (congrArg some (by kernel_rfl))
  f152 := Tryd.func38.trans (congrArg some (by kernel_rfl))
  f161 := Tryd.func18.trans (congrArg some (by kernel_rfl))
  f197 := Tryd.func34.trans (congrArg some (by kernel_rfl))
  f217 := Tryd.func44.trans (congrArg some (by kernel_rfl))
  f224 := Tryd.func42.trans (congrArg some (by kernel_rfl))
  f225 := Tryd.func43.trans (congrArg some (by kernel_rfl))
  f227 := Tryd.func25.trans (congrArg some (by kernel_rfl))
  f228 := Tryd.func33.trans (congrArg some (by kernel_rfl))
  f231 := Tryd.func24.trans (congrArg some (by kernel_rfl))
  f233 := Tryd.func26.trans (congrArg some (by kernel_rfl))
  f235 := Tryd.func27.trans (congrArg some (by kernel_rfl))
  f260 := Tryd.func37.trans (congrArg some (by kernel_rfl))
  f266 := Tryd.func45.trans (congrArg some (by kernel_rfl))
  t0 := Tryd.underlying0
  a0 := Tryd.isAgg0
  z0 := Tryd.sizeOf0
  v0 := Tryd.zeroValue0
  t3 := Tryd.underlying3
  a3 := Tryd.isAgg3
  z3 := Tryd.sizeOf3
  v3 := Tryd.zeroValue3
  t4 := Tryd.underlying4
  a4 := Tryd.isAgg4
  z4 := Tryd.sizeOf4
  v4 := Tryd.zeroValue4
  t5 := Tryd.underlying5
  a5 := Tryd.isAgg5
  z5 := Tryd.sizeOf5
  v5 := Tryd.zeroValue5
  t9 := Tryd.underlying9
  a9 := Tryd.isAgg9
  z9 := Tryd.sizeOf9
  v9 := Tryd.zeroValue9
  t21 := Tryd.underlying21
  a21 := Tryd.isAgg21
  z21 := Tryd.sizeOf21
  v21 := Tryd.zeroValue21
  t46 := Tryd.underlying55
  a46 := Tryd.isAgg55
  z46 := Tryd.sizeOf55
  v46 := Tryd.zeroValue55
  t105 := Tryd.underlying50
  a105 := Tryd.isAgg50
  z105 := Tryd.sizeOf50
  v105 := Tryd.zeroValue50
  t116 := Tryd.underlying43
  a116 := Tryd.isAgg43
  z116 := Tryd.sizeOf43
  t117 := Tryd.underlying44
  a117 := Tryd.isAgg44
  z117 := Tryd.sizeOf44
  v117 := Tryd.zeroValue44
  t119 := Tryd.underlying54
  a119 := Tryd.isAgg54
  z119 := Tryd.sizeOf54
  t124 := Tryd.underlying47
  a124 := Tryd.isAgg47
  z124 := Tryd.sizeOf47
  v124 := Tryd.zeroValue47
  t138 := Tryd.underlying57
  a138 := Tryd.isAgg57
  z138 := Tryd.sizeOf57
  v138 := Tryd.zeroValue57
  t139 := Tryd.underlying58
  a139 := Tryd.isAgg58
  z139 := Tryd.sizeOf58
  v139 := Tryd.zeroValue58
  g3 := by kernel_rfl
  g4 := by kernel_rfl }
open Go.RowKit in
theorem Tryd.strings_TrimLeft_one (s : ByteArray) (c : UInt8) (hc : c.toNat < 128) (w : World) :
    Calls Tryd.prog 18 #[.string s, .string ⟨#[c]⟩] w fun e w' => e = .returned (.string ⟨(Lib.trimLeftB s.data.toList c).toArray⟩) ∧ w' = w := Any.strings_TrimLeft_one Tryd.lays161 s c hc w
def Tryd.lays162_ren : Go.Shelf.Ren := ⟨fun | 162 => 19 | 232 => 28 | 227 => 25 | 234 => 29 | 236 => 30 | 228 => 33 | 271 => 36 | 151 => 35 | 120 => 39 | 197 => 34 | 152 => 38 | 260 => 37 | 137 => 40 | 119 => 41 | 224 => 42 | 225 => 43 | 217 => 44 | 266 => 45 | n => n, fun | 9 => 9 | 4 => 4 | 3 => 3 | 5 => 5 | 117 => 44 | 116 => 43 | 0 => 0 | 124 => 47 | 21 => 21 | 105 => 50 | 46 => 55 | 119 => 54 | 139 => 58 | 138 => 57 | n => n, fun | 3 => 0 | 4 => 1 | n => n⟩
theorem Tryd.lays162 : Go.Proofs.Lays.n162 Tryd.prog Tryd.lays162_ren := {
  mixed := by kernel_rfl
  f119 := Tryd.func41.trans (congrArg some (by kernel_rfl))
  f120 := Tryd.func39.trans (congrArg some (by kernel_rfl))
  f137 := Tryd.func40.trans (congrArg some (by kernel_rfl))
  f151 := Tryd.func35.trans (congrArg some (by kernel_rfl))
  f152 := Tryd.func38.trans (congrArg some (by kernel_rfl))
  f162 := Tryd.func19.trans (congrArg some (by kernel_rfl))
  f197 := Tryd.func34.trans (congrArg some (by kernel_rfl))
  f217 := Tryd.func44.trans (congrArg some (by kernel_rfl))
  f224 := Tryd.func42.trans (congrArg some (by kernel_rfl))
  f225 := Tryd.func43.trans (congrArg some (by kernel_rfl))
  f227 := Tryd.func25.trans (congrArg some (by kernel_rfl))
  f228 := Tryd.func33.trans (congrArg some (by kernel_rfl))
  f232 := Tryd.func28.trans (congrArg some (by kernel_rfl))
  f234 := Tryd.func29.trans (congrArg some (by kernel_rfl))
  f236 := Tryd.func30.trans (congrArg some (by kernel_rfl))
  f260 := Tryd.func37.trans (congrArg some (by kernel_rfl))
  f266 := Tryd.func45.trans (congrArg some (by kernel_rfl))
  f271 := Tryd.func36.trans (congrArg some (by kernel_rfl))
  t0 := Tryd.underlying0
  a0 := Tryd.isAgg0
  z0 := Tryd.sizeOf0
  v0 := Tryd.zeroValue0
  t3 := Tryd.underlying3
  a3 := Tryd.isAgg3
  z3 := Tryd.sizeOf3
  v3 := Tryd.zeroValue3
  t4 := Tryd.underlying4
  a4 := Tryd.isAgg4
  z4 := Tryd.sizeOf4
  v4 := Tryd.zeroValue4
  t5 := Tryd.underlying5
  a5 := Tryd.isAgg5
  z5 := Tryd.sizeOf5
  v5 := Tryd.zeroValue5
  t9 := Tryd.underlying9
  a9 := Tryd.isAgg9
  z9 := Tryd.sizeOf9
  v9 := Tryd.zeroValue9
  t21 := Tryd.underlying21
  a21 := Tryd.isAgg21
  z21 := Tryd.sizeOf21
  v21 := Tryd.zeroValue21
  t46 := Tryd.underlying55
  a46 := Tryd.isAgg55
  z46 := Tryd.sizeOf55
  v46 := Tryd.zeroValue55
  t105 := Tryd.underlying50
  a105 := Tryd.isAgg50
  z105 := Tryd.sizeOf50
  v105 := Tryd.zeroValue50
  t116 := Tryd.underlying43
  a116 := Tryd.isAgg43
  z116 := Tryd.sizeOf43
  t117 := Tryd.underlying44
  a117 := Tryd.isAgg44
  z117 := Tryd.sizeOf44
  v117 := Tryd.zeroValue44
  t119 := Tryd.underlying54
  a119 := Tryd.isAgg54
  z119 := Tryd.sizeOf54
  t124 := Tryd.underlying47
  a124 := Tryd.isAgg47
  z124 := Tryd.sizeOf47
  v124 := Tryd.zeroValue47
  t138 := Tryd.underlying57
  a138 := Tryd.isAgg57
  z138 := Tryd.sizeOf57
  v138 := Tryd.zeroValue57
  t139 := Tryd.underlying58
  a139 := Tryd.isAgg58
  z139 := Tryd.sizeOf58
  v139 := Tryd.zeroValue58
  g3 := by kernel_rfl
  g4 := by kernel_rfl }
open Go.RowKit in
theorem Tryd.strings_TrimRight_one (s : ByteArray) (c : UInt8) (hc : c.toNat < 128) (w : World) (hs : s.size ≤ 9223372036854775807) :
    Calls Tryd.prog 19 #[.string s, .string ⟨#[c]⟩] w fun e w' => e = .returned (.string ⟨(Lib.trimRightB s.data.toList c).toArray⟩) ∧ w' = w := Any.strings_TrimRight_one Tryd.lays162 s c hc w hs
def Tryd.lays103_ren : Go.Shelf.Ren := ⟨fun | 103 => 15 | 210 => 20 | 206 => 31 | n => n, fun | 9 => 9 | 4 => 4 | 24 => 34 | 3 => 3 | n => n, fun | n => n⟩
theorem Tryd.lays103 : Go.Proofs.Lays.n103 Tryd.prog Tryd.lays103_ren := {
  mixed := by kernel_rfl
  f103 := Tryd.func15.trans (congrArg some (by kernel_rfl))
  f206 := Tryd.func31.trans (congrArg some (by kernel_rfl))
  f210 := Tryd.func20.trans (congrArg some (by kernel_rfl))
  t3 := Tryd.underlying3
  a3 := Tryd.isAgg3
  z3 := Tryd.sizeOf3
  v3 := Tryd.zeroValue3
  t4 := Tryd.underlying4
  a4 := Tryd.isAgg4
  z4 := Tryd.sizeOf4
  v4 := Tryd.zeroValue4
  t9 := Tryd.underlying9
  a9 := Tryd.isAgg9
  z9 := Tryd.sizeOf9
  v9 := Tryd.zeroValue9
  t24 := Tryd.underlying34
  a24 := Tryd.isAgg34
  z24 := Tryd.sizeOf34
  v24 := Tryd.zeroValue34 }
open Go.RowKit in
theorem Tryd.strings_CutPrefix (s p : ByteArray) (w : World) :
    Calls Tryd.prog 15 #[.string s, .string p] w fun e w' => e = .returned (.tuple #[.string ⟨(Lib.trimPrefix s.data.toList p.data.toList).toArray⟩, .bool (Lib.hasPrefix s.data.toList p.data.toList)]) ∧ w' = w := Any.strings_CutPrefix Tryd.lays103 s p w
def Tryd.laysGw15_ren : Go.Shelf.Ren := ⟨fun | 15 => 21 | 20 => 32 | n => n, fun | 9 => 9 | 23 => 40 | 3 => 3 | 4 => 4 | 0 => 0 | 21 => 21 | n => n, fun | n => n⟩
theorem Tryd.laysGw15 : Go.Proofs.LaysGw.n15 Tryd.prog Tryd.laysGw15_ren := {
  mixed := by kernel_rfl
  f15 := Tryd.func21.trans (congrArg some (by kernel_rfl))
  f20 := Tryd.func32.trans (congrArg some (by kernel_rfl))
  t0 := Tryd.underlying0
  a0 := Tryd.isAgg0
  z0 := Tryd.sizeOf0
  v0 := Tryd.zeroValue0
  i0 := by kernel_rfl
  t3 := Tryd.underlying3
  a3 := Tryd.isAgg3
  z3 := Tryd.sizeOf3
  v3 := Tryd.zeroValue3
  i3 := by kernel_rfl
  t4 := Tryd.underlying4
  a4 := Tryd.isAgg4
  z4 := Tryd.sizeOf4
  v4 := Tryd.zeroValue4
  i4 := by kernel_rfl
  t9 := Tryd.underlying9
  a9 := Tryd.isAgg9
  z9 := Tryd.sizeOf9
  v9 := Tryd.zeroValue9
  i9 := by kernel_rfl
  t21 := Tryd.underlying21
  a21 := Tryd.isAgg21
  z21 := Tryd.sizeOf21
  v21 := Tryd.zeroValue21
  i21 := by kernel_rfl
  t23 := Tryd.underlying40
  a23 := Tryd.isAgg40
  z23 := Tryd.sizeOf40
  v23 := Tryd.zeroValue40
  i23 := by kernel_rfl }
open Go.RowKit Go.Lib in
theorem Tryd.strings_IndexFunc_runes (g : Nat) (lb : Array Value) (eg : ∀ args w, (callFunc g args).run Tryd.prog w = .ok (.enter g args) w) (p : Nat → Bool) (s : ByteArray) (w : World) (hp : PredAtRunes Tryd.prog g lb p w) :
    Calls Tryd.prog 21 #[.string s, .func (.func g) #[] lb] w fun e w' => e = .returned (.int .i64 (Lib.idxFunc p true s)) ∧ Below w.heap.size w w' := Any.strings_IndexFunc_runes Tryd.laysGw15 g lb eg p s w hp
def Tryd.lays101_ren : Go.Shelf.Ren := ⟨fun | 101 => 17 | 208 => 23 | 206 => 31 | n => n, fun | 9 => 9 | 4 => 4 | 3 => 3 | n => n, fun | n => n⟩
theorem Tryd.lays101 : Go.Proofs.Lays.n101 Tryd.prog Tryd.lays101_ren := {
  mixed := by kernel_rfl
  f101 := Tryd.func17.trans (congrArg some (by kernel_rfl))
  f206 := Tryd.func31.trans (congrArg some (by kernel_rfl))
  f208 := Tryd.func23.trans (congrArg some (by kernel_rfl))
  t3 := Tryd.underlying3
  a3 := Tryd.isAgg3
  z3 := Tryd.sizeOf3
  v3 := Tryd.zeroValue3
  t4 := Tryd.underlying4
  a4 := Tryd.isAgg4
  z4 := Tryd.sizeOf4
  v4 := Tryd.zeroValue4
  t9 := Tryd.underlying9
  a9 := Tryd.isAgg9
  z9 := Tryd.sizeOf9
  v9 := Tryd.zeroValue9 }
open Go.RowKit Go.Lib in
theorem Tryd.strings_TrimPrefix (s p : ByteArray) (w : World) :
    Calls Tryd.prog 17 #[.string s, .string p] w fun e w' => e = .returned (.string ⟨(Lib.trimPrefix s.data.toList p.data.toList).toArray⟩) ∧ w' = w := Any.strings_TrimPrefix Tryd.lays101 s p w
end Go.Proofs
