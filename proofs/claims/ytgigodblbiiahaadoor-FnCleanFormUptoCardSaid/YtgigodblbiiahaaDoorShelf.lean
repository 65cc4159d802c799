/-
  The library's contracts that are proved once, laid at this seat's program by the kit's own commands (lay-shelf, lay-plain), remarks struck. No walk.
-/
import Derived.Shelf.Strings.Search1
import Derived.Shelf.Strings.Search2
import Derived.Shelf.Strings.Search3
import Derived.Shelf.Strings.Count
import Derived.Shelf.LaysM
import Derived.Shelf.Strings.Shaped
import Derived.Shelf.Strings.Prefix
import Derived.Shelf.Strings.Split
import Derived.Shelf.Strings.SplitShaped
import Derived.Shelf.Unicode.DecodeSlow
import Derived.Ground.PaProg
import Derived.Shelf.Path.LazyBuf
import Derived.Shelf.Path.CleanRel
import Derived.Shelf.Path.CleanAbs
import Derived.Shelf.Path.Clean
import Derived.Shelf.Path.CleanRules
import Derived.Test.YtgigodblbiiahaaDoorProg
namespace Go.Proofs
open Go.Shelf
def Tryd.lays144_ren : Go.Shelf.Ren := ⟨fun | 144 => 5 | 143 => 11 | 219 => 19 | 217 => 22 | 225 => 23 | 224 => 24 | 267 => 25 | 266 => 29 | 314 => 30 | n => n, fun | 9 => 9 | 4 => 4 | 3 => 3 | 5 => 5 | 46 => 40 | 146 => 45 | 51 => 44 | n => n, fun | 1 => 0 | n => n⟩
theorem Tryd.lays144 : Go.Proofs.Lays.n144 Tryd.prog Tryd.lays144_ren := {
  mixed := by kernel_rfl
  f143 := Tryd.func11.trans (congrArg some (by kernel_rfl))
  f144 := Tryd.func5.trans (congrArg some (by kernel_rfl))
  f217 := Tryd.func22.trans (congrArg some (by kernel_rfl))
  f219 := Tryd.func19.trans (congrArg some (by kernel_rfl))
  f224 := Tryd.func24.trans (congrArg some (by kernel_rfl))
  f225 := Tryd.func23.trans (congrArg some (by kernel_rfl))
  f266 := Tryd.func29.trans (congrArg some (by kernel_rfl))
  f267 := Tryd.func25.trans (congrArg some (by kernel_rfl))
  f314 := Tryd.func30.trans (congrArg some (by kernel_rfl))
  t3 := Tryd.underlying3
  a3 := Tryd.isAgg3
  z3 := Tryd.sizeOf3
  v3 := Tryd.zeroValue3
  t4 := Tryd.underlying4
  a4 := Tryd.isAgg4
  z4 := Tryd.sizeOf4
  v4 := Tryd.zeroValue4
  t5 := Tryd.underlying5
  a5 := Tryd.isAgg5
  z5 := Tryd.sizeOf5
  v5 := Tryd.zeroValue5
  t9 := Tryd.underlying9
  a9 := Tryd.isAgg9
  z9 := Tryd.sizeOf9
  v9 := Tryd.zeroValue9
  t46 := Tryd.underlying40
  a46 := Tryd.isAgg40
  z46 := Tryd.sizeOf40
  v46 := Tryd.zeroValue40
  t51 := Tryd.underlying44
  a51 := Tryd.isAgg44
  z51 := Tryd.sizeOf44
  v51 := Tryd.zeroValue44
  t146 := Tryd.underlying45
  a146 := Tryd.isAgg45
  z146 := Tryd.sizeOf45
  v146 := Tryd.zeroValue45
  g1 := by kernel_rfl }
open Go.RowKit Go.Lib in
theorem Tryd.strings_Contains_one (s : ByteArray) (c : UInt8) (w : World) :
    Calls Tryd.prog 5 #[.string s, .string ⟨#[c]⟩] w fun e w' => e = .returned (.bool (decide (0 ≤ Lib.indexByte s.data.toList c))) ∧ w' = w := Any.strings_Contains_one Tryd.lays144 s c w
open Go.RowKit Go.Lib in
theorem Tryd.strings_Contains (s sub : ByteArray) (m : Int) (w : World) (hs : s.size < 4294967281) (hm : w.cell? ⟨0, 0, none⟩ = some (.int .i64 m)) :
    Calls Tryd.prog 5 #[.string s, .string sub] w fun e w' => e = .returned (.bool (Lib.contains s.data.toList sub.data.toList)) ∧ w' = w := Any.strings_Contains Tryd.lays144 s sub m w hs hm
def Tryd.lays138_ren : Go.Shelf.Ren := ⟨fun | 138 => 21 | 195 => 26 | 218 => 28 | 143 => 11 | 219 => 19 | 217 => 22 | 225 => 23 | 224 => 24 | 267 => 25 | 266 => 29 | 314 => 30 | n => n, fun | 9 => 9 | 3 => 3 | 4 => 4 | 5 => 5 | 0 => 0 | 46 => 40 | 146 => 45 | 51 => 44 | n => n, fun | 1 => 0 | n => n⟩
theorem Tryd.lays138 : Go.Proofs.Lays.n138 Tryd.prog Tryd.lays138_ren := {
  mixed := by kernel_rfl
  f138 := Tryd.func21.trans (congrArg some (by kernel_rfl))
  f143 := Tryd.func11.trans (congrArg some (by kernel_rfl))
  f195 := Tryd.func26.trans (congrArg some (by kernel_rfl))
  f217 := Tryd.func22.trans (congrArg some (by kernel_rfl))
  f218 := Tryd.func28.trans (congrArg some (by kernel_rfl))
  f219 := Tryd.func19.trans (congrArg some (by kernel_rfl))
  f224 := Tryd.func24.trans (congrArg some (by kernel_rfl))
  f225 := Tryd.func23.trans (congrArg some (by kernel_rfl))
  f266 := Tryd.func29.trans (congrArg some (by kernel_rfl))
  f267 := Tryd.func25.trans (congrArg some (by kernel_rfl))
  f314 := Tryd.func30.trans (congrArg some (by kernel_rfl))
  t0 := Tryd.underlying0
  a0 := Tryd.isAgg0
  z0 := Tryd.sizeOf0
  v0 := Tryd.zeroValue0
  t3 := Tryd.underlying3
  a3 := Tryd.isAgg3
  z3 := Tryd.sizeOf3
  v3 := Tryd.zeroValue3
  t4 := Tryd.underlying4
  a4 := Tryd.isAgg4
  z4 := Tryd.sizeOf4
  v4 := Tryd.zeroValue4
  t5 := Tryd.underlying5
  a5 := Tryd.isAgg5
  z5 := Tryd.sizeOf5
  v5 := Tryd.zeroValue5
  t9 := Tryd.underlying9
  a9 := Tryd.isAgg9
  z9 := Tryd.sizeOf9
  v9 := Tryd.zeroValue9
  t46 := Tryd.underlying40
  a46 := Tryd.isAgg40
  z46 := Tryd.sizeOf40
  v46 := Tryd.zeroValue40
  t51 := Tryd.underlying44
  a51 := Tryd.isAgg44
  z51 := Tryd.sizeOf44
  v51 := Tryd.zeroValue44
  t146 := Tryd.underlying45
  a146 := Tryd.isAgg45
  z146 := Tryd.sizeOf45
  v146 := Tryd.zeroValue45
  g1 := by kernel_rfl }
open Go.RowKit Go.Lib in
theorem Tryd.strings_Count_one (s : ByteArray) (c : UInt8) (w : World) :
    Calls Tryd.prog 21 #[.string s, .string ⟨#[c]⟩] w fun e w' => e = .returned (.int .i64 (Lib.countByte s.data.toList c)) ∧ w' = w := Any.strings_Count_one Tryd.lays138 s c w
def Tryd.laysM144_ren : Go.Shelf.Ren := ⟨fun | 144 => 5 | 143 => 11 | 219 => 19 | 217 => 22 | 225 => 23 | 224 => 24 | 267 => 25 | 266 => 29 | 314 => 30 | n => n, fun | 9 => 9 | 4 => 4 | 3 => 3 | 5 => 5 | 46 => 40 | 146 => 45 | 51 => 44 | n => n, fun | 1 => 0 | n => n⟩
theorem Tryd.laysM144 : Go.Proofs.LaysM.n144 Tryd.prog Tryd.laysM144_ren := {
  mixed := by kernel_rfl
  f143 := Tryd.func11.trans (congrArg some (by kernel_rfl))
  f144 := Tryd.func5.trans (congrArg some (by kernel_rfl))
  f217 := Tryd.func22.trans (congrArg some (by kernel_rfl))
  f219 := Tryd.func19.trans (congrArg some (by kernel_rfl))
  f224 := Tryd.func24.trans (congrArg some (by kernel_rfl))
  f225 := Tryd.func23.trans (congrArg some (by kernel_rfl))
  f266 := Tryd.func29.trans (congrArg some (by kernel_rfl))
  f267 := Tryd.func25.trans (congrArg some (by kernel_rfl))
  f314 := Tryd.func30.trans (congrArg some (by kernel_rfl))
  t3 := Tryd.underlying3
  a3 := Tryd.isAgg3
  z3 := Tryd.sizeOf3
  v3 := Tryd.zeroValue3
  t4 := Tryd.underlying4
  a4 := Tryd.isAgg4
  z4 := Tryd.sizeOf4
  v4 := Tryd.zeroValue4
  t5 := Tryd.underlying5
  a5 := Tryd.isAgg5
  z5 := Tryd.sizeOf5
  v5 := Tryd.zeroValue5
  t9 := Tryd.underlying9
  a9 := Tryd.isAgg9
  z9 := Tryd.sizeOf9
  v9 := Tryd.zeroValue9
  t46 := Tryd.underlying40
  a46 := Tryd.isAgg40
  z46 := Tryd.sizeOf40
  v46 := Tryd.zeroValue40
  t51 := Tryd.underlying44
  a51 := Tryd.isAgg44
  z51 := Tryd.sizeOf44
  v51 := Tryd.zeroValue44
  t146 := Tryd.underlying45
  a146 := Tryd.isAgg45
  z146 := Tryd.sizeOf45
  v146 := Tryd.zeroValue45
  g1 := by kernel_rfl
  i3 := by kernel_rfl
  i4 := by kernel_rfl
  i5 := by kernel_rfl
  i9 := by kernel_rfl
  i46 := by kernel_rfl
  i51 := by kernel_rfl
  i146 := by kernel_rfl
  m1 := by kernel_rfl
  s1_3 := fun w h => Go.Proofs.cell_of_shapedOpen_int (zero := #[.int .i64 0]) (t := 3) h (of_decide_eq_true (by kernel_rfl)) (by kernel_rfl) rfl (by kernel_rfl) (by kernel_rfl) Tryd.underlying3 }
open Go.RowKit Go.Lib in
theorem Tryd.strings_Contains_shaped (s sub : ByteArray) (w : World) (h : w.ShapedOpen Tryd.prog) (hs : s.size < 4294967281) :
    Calls Tryd.prog 5 #[.string s, .string sub] w fun e w' => e = .returned (.bool (Lib.contains s.data.toList sub.data.toList)) ∧ w' = w := Any.strings_Contains_shaped Tryd.laysM144 s sub w h hs
def Tryd.lays99_ren : Go.Shelf.Ren := ⟨fun | 99 => 7 | 206 => 13 | n => n, fun | 9 => 9 | 4 => 4 | 3 => 3 | n => n, fun | n => n⟩
theorem Tryd.lays99 : Go.Proofs.Lays.n99 Tryd.prog Tryd.lays99_ren := {
  mixed := by kernel_rfl
  f99 := Tryd.func7.trans (congrArg some (by kernel_rfl))
  f206 := Tryd.func13.trans (congrArg some (by kernel_rfl))
  t3 := Tryd.underlying3
  a3 := Tryd.isAgg3
  z3 := Tryd.sizeOf3
  v3 := Tryd.zeroValue3
  t4 := Tryd.underlying4
  a4 := Tryd.isAgg4
  z4 := Tryd.sizeOf4
  v4 := Tryd.zeroValue4
  t9 := Tryd.underlying9
  a9 := Tryd.isAgg9
  z9 := Tryd.sizeOf9
  v9 := Tryd.zeroValue9 }
open Go.RowKit Go.Lib in
theorem Tryd.strings_HasPrefix (s p : ByteArray) (w : World) :
    Calls Tryd.prog 7 #[.string s, .string p] w fun e w' => e = .returned (.bool (Lib.hasPrefix s.data.toList p.data.toList)) ∧ w' = w := Any.strings_HasPrefix Tryd.lays99 s p w
def Tryd.lays100_ren : Go.Shelf.Ren := ⟨fun | 100 => 6 | 207 => 12 | n => n, fun | 9 => 9 | 4 => 4 | 3 => 3 | n => n, fun | n => n⟩
theorem Tryd.lays100 : Go.Proofs.Lays.n100 Tryd.prog Tryd.lays100_ren := {
  mixed := by kernel_rfl
  f100 := Tryd.func6.trans (congrArg some (by kernel_rfl))
  f207 := Tryd.func12.trans (congrArg some (by kernel_rfl))
  t3 := Tryd.underlying3
  a3 := Tryd.isAgg3
  z3 := Tryd.sizeOf3
  v3 := Tryd.zeroValue3
  t4 := Tryd.underlying4
  a4 := Tryd.isAgg4
  z4 := Tryd.sizeOf4
  v4 := Tryd.zeroValue4
  t9 := Tryd.underlying9
  a9 := Tryd.isAgg9
  z9 := Tryd.sizeOf9
  v9 := Tryd.zeroValue9 }
open Go.RowKit Go.Lib in
theorem Tryd.strings_HasSuffix (s p : ByteArray) (w : World) (hs : s.size ≤ 9223372036854775807) :
    Calls Tryd.prog 6 #[.string s, .string p] w fun e w' => e = .returned (.bool (Lib.hasSuffix s.data.toList p.data.toList)) ∧ w' = w := Any.strings_HasSuffix Tryd.lays100 s p w hs
def Tryd.lays101_ren : Go.Shelf.Ren := ⟨fun | 101 => 9 | 208 => 15 | 206 => 13 | n => n, fun | 9 => 9 | 4 => 4 | 3 => 3 | n => n, fun | n => n⟩
theorem Tryd.lays101 : Go.Proofs.Lays.n101 Tryd.prog Tryd.lays101_ren := {
  mixed := by kernel_rfl
  f101 := Tryd.func9.trans (congrArg some (by kernel_rfl))
  f206 := Tryd.func13.trans (congrArg some (by kernel_rfl))
  f208 := Tryd.func15.trans (congrArg some (by kernel_rfl))
  t3 := Tryd.underlying3
  a3 := Tryd.isAgg3
  z3 := Tryd.sizeOf3
  v3 := Tryd.zeroValue3
  t4 := Tryd.underlying4
  a4 := Tryd.isAgg4
  z4 := Tryd.sizeOf4
  v4 := Tryd.zeroValue4
  t9 := Tryd.underlying9
  a9 := Tryd.isAgg9
  z9 := Tryd.sizeOf9
  v9 := Tryd.zeroValue9 }
open Go.RowKit Go.Lib in
theorem Tryd.strings_TrimPrefix (s p : ByteArray) (w : World) :
    Calls Tryd.prog 9 #[.string s, .string p] w fun e w' => e = .returned (.string ⟨(Lib.trimPrefix s.data.toList p.data.toList).toArray⟩) ∧ w' = w := Any.strings_TrimPrefix Tryd.lays101 s p w
def Tryd.lays146_ren : Go.Shelf.Ren := ⟨fun | 146 => 8 | 221 => 14 | 268 => 20 | 138 => 21 | 143 => 11 | 195 => 26 | 197 => 27 | 218 => 28 | 219 => 19 | 260 => 31 | 217 => 22 | 225 => 23 | 224 => 24 | 267 => 25 | 266 => 29 | 314 => 30 | n => n, fun | 9 => 9 | 31 => 24 | 3 => 3 | 4 => 4 | 0 => 0 | 105 => 42 | 21 => 21 | 5 => 5 | 46 => 40 | 119 => 47 | 139 => 50 | 138 => 49 | 146 => 45 | 51 => 44 | n => n, fun | 1 => 0 | 3 => 1 | 4 => 2 | n => n⟩
theorem Tryd.lays146 : Go.Proofs.Lays.n146 Tryd.prog Tryd.lays146_ren := {
  mixed := by kernel_rfl
  f138 := Tryd.func21.trans (congrArg some (by kernel_rfl))
  f143 := Tryd.func11.trans (congrArg some (by kernel_rfl))
  f146 := Tryd.func8.trans (congrArg some (by kernel_rfl))
  f195 := Tryd.func26.trans (congrArg some (by kernel_rfl))
  f197 := Tryd.func27.trans (congrArg some (by kernel_rfl))
  f217 := Tryd.func22.trans (congrArg some (by kernel_rfl))
  f218 := Tryd.func28.trans (congrArg some (by kernel_rfl))
  f219 := Tryd.func19.trans (congrArg some (by kernel_rfl))
  f221 := Tryd.func14.trans (congrArg some (by kernel_rfl))
  f224 := Tryd.func24.trans (congrArg some (by kernel_rfl))
  f225 := Tryd.func23.trans (congrArg some (by kernel_rfl))
  f260 := Tryd.func31.trans (congrArg some (by kernel_rfl))
  f266 := Tryd.func29.trans (congrArg some (by kernel_rfl))
  f267 := Tryd.func25.trans (congrArg some (by kernel_rfl))
  f268 := Tryd.func20.trans (congrArg some (by kernel_rfl))
  f314 := Tryd.func30.trans (congrArg some (by kernel_rfl))
  t0 := Tryd.underlying0
  a0 := Tryd.isAgg0
  z0 := Tryd.sizeOf0
  v0 := Tryd.zeroValue0
  t3 := Tryd.underlying3
  a3 := Tryd.isAgg3
  z3 := Tryd.sizeOf3
  v3 := Tryd.zeroValue3
  t4 := Tryd.underlying4
  a4 := Tryd.isAgg4
  z4 := Tryd.sizeOf4
  v4 := Tryd.zeroValue4
  t5 := Tryd.underlying5
  a5 := Tryd.isAgg5
  z5 := Tryd.sizeOf5
  v5 := Tryd.zeroValue5
  t9 := Tryd.underlying9
  a9 := Tryd.isAgg9
  z9 := Tryd.sizeOf9
  v9 := Tryd.zeroValue9
  t21 := Tryd.underlying21
  a21 := Tryd.isAgg21
  z21 := Tryd.sizeOf21
  v21 := Tryd.zeroValue21
  t31 := Tryd.underlying24
  a31 := Tryd.isAgg24
  z31 := Tryd.sizeOf24
  v31 := Tryd.zeroValue24
  t46 := Tryd.underlying40
  a46 := Tryd.isAgg40
  z46 := Tryd.sizeOf40
  v46 := Tryd.zeroValue40
  t51 := Tryd.underlying44
  a51 := Tryd.isAgg44
  z51 := Tryd.sizeOf44
  v51 := Tryd.zeroValue44
  t105 := Tryd.underlying42
  a105 := Tryd.isAgg42
  z105 := Tryd.sizeOf42
  v105 := Tryd.zeroValue42
  t119 := Tryd.underlying47
  a119 := Tryd.isAgg47
  z119 := Tryd.sizeOf47
  t138 := Tryd.underlying49
  a138 := Tryd.isAgg49
  z138 := Tryd.sizeOf49
  v138 := Tryd.zeroValue49
  t139 := Tryd.underlying50
  a139 := Tryd.isAgg50
  z139 := Tryd.sizeOf50
  v139 := Tryd.zeroValue50
  t146 := Tryd.underlying45
  a146 := Tryd.isAgg45
  z146 := Tryd.sizeOf45
  v146 := Tryd.zeroValue45
  g1 := by kernel_rfl
  g3 := by kernel_rfl
  g4 := by kernel_rfl }
open Go.RowKit Go.Lib in
theorem Tryd.strings_Split (s sep : ByteArray) (m : Int) (w : World) (hs : s.size < 4294967281) (hm : w.cell? ⟨0, 0, none⟩ = some (.int .i64 m)) (h1 : 1 ≤ sep.size) :
    Calls Tryd.prog 8 #[.string s, .string sep] w fun e w' =>
      e = .returned (.slice (some ⟨w.heap.size, 0, none⟩) (Lib.countB s sep + 1) (Lib.countB s sep + 1)) ∧ w' = w.alloc (.cells ((Lib.splitB sep 0 (Lib.countB s sep) s).map Value.string).toArray 9) := Any.strings_Split Tryd.lays146 (by kernel_rfl) s sep m w hs hm h1
def Tryd.laysM146_ren : Go.Shelf.Ren := ⟨fun | 146 => 8 | 221 => 14 | 268 => 20 | 138 => 21 | 143 => 11 | 195 => 26 | 197 => 27 | 218 => 28 | 219 => 19 | 260 => 31 | 217 => 22 | 225 => 23 | 224 => 24 | 267 => 25 | 266 => 29 | 314 => 30 | n => n, fun | 9 => 9 | 31 => 24 | 3 => 3 | 4 => 4 | 0 => 0 | 105 => 42 | 21 => 21 | 5 => 5 | 46 => 40 | 119 => 47 | 139 => 50 | 138 => 49 | 146 => 45 | 51 => 44 | n => n, fun | 1 => 0 | 3 => 1 | 4 => 2 | n => n⟩
theorem Tryd.laysM146 : Go.Proofs.LaysM.n146 Tryd.prog Tryd.laysM146_ren := {
  mixed := by kernel_rfl
  f138 := Tryd.func21.trans (congrArg some (by kernel_rfl))
  f143 := Tryd.func11.trans (congrArg some (by kernel_rfl))
  f146 := Tryd.func8.trans (congrArg some (by kernel_rfl))
  f195 := Tryd.func26.trans (congrArg some (by kernel_rfl))
  f197 := Tryd.func27.trans (congrArg some (by kernel_rfl))
  f217 := Tryd.func22.trans (congrArg some (by kernel_rfl))
  f218 := Tryd.func28.trans (congrArg some (by kernel_rfl))
  f219 := Tryd.func19.trans (congrArg some (by kernel_rfl))
  f221 := Tryd.func14.trans (congrArg some (by kernel_rfl))
  f224 := Tryd.func24.trans (congrArg some (by kernel_rfl))
  f225 := Tryd.func23.trans (congrArg some (by kernel_rfl))
  f260 := Tryd.func31.trans (congrArg some (by kernel_rfl))
  f266 := Tryd.func29.trans (congrArg some (by kernel_rfl))
  f267 := Tryd.func25.trans (congrArg some (by kernel_rfl))
  f268 := Tryd.func20.trans (congrArg some (by kernel_rfl))
  f314 := Tryd.func30.trans (congrArg some (by kernel_rfl))
  t0 := Tryd.underlying0
  a0 := Tryd.isAgg0
  z0 := Tryd.sizeOf0
  v0 := Tryd.zeroValue0
  t3 := Tryd.underlying3
  a3 := Tryd.isAgg3
  z3 := Tryd.sizeOf3
  v3 := Tryd.zeroValue3
  t4 := Tryd.underlying4
  a4 := Tryd.isAgg4
  z4 := Tryd.sizeOf4
  v4 := Tryd.zeroValue4
  t5 := Tryd.underlying5
  a5 := Tryd.isAgg5
  z5 := Tryd.sizeOf5
  v5 := Tryd.zeroValue5
  t9 := Tryd.underlying9
  a9 := Tryd.isAgg9
  z9 := Tryd.sizeOf9
  v9 := Tryd.zeroValue9
  t21 := Tryd.underlying21
  a21 := Tryd.isAgg21
  z21 := Tryd.sizeOf21
  v21 := Tryd.zeroValue21
  t31 := Tryd.underlying24
  a31 := Tryd.isAgg24
  z31 := Tryd.sizeOf24
  v31 := Tryd.zeroValue24
  t46 := Tryd.underlying40
  a46 := Tryd.isAgg40
  z46 := Tryd.sizeOf40
  v46 := Tryd.zeroValue40
  t51 := Tryd.underlying44
  a51 := Tryd.isAgg44
  z51 := Tryd.sizeOf44
  v51 := Tryd.zeroValue44
  t105 := Tryd.underlying42
  a105 := Tryd.isAgg42
  z105 := Tryd.sizeOf42
  v105 := Tryd.zeroValue42
  t119 := Tryd.underlying47
  a119 := Tryd.isAgg47
  z119 := Tryd.sizeOf47
  t138 := Tryd.underlying49
  a138 := Tryd.isAgg49
  z138 := Tryd.sizeOf49
  v138 := Tryd.zeroValue49
  t139 := Tryd.underlying50
  a139 := Tryd.isAgg50
  z139 := Tryd.sizeOf50
  v139 := Tryd.zeroValue50
  t146 := Tryd.underlying45
  a146 := Tryd.isAgg45
  z146 := Tryd.sizeOf45
  v146 := Tryd.zeroValue45
  g1 := by kernel_rfl
  g3 := by kernel_rfl
  g4 := by kernel_rfl
  i0 := by kernel_rfl
  i3 := by kernel_rfl
  i4 := by kernel_rfl
  i5 := by kernel_rfl
  i9 := by kernel_rfl
  i21 := by kernel_rfl
  i31 := by kernel_rfl
  i46 := by kernel_rfl
  i51 := by kernel_rfl
  i105 := by kernel_rfl
  i138 := by kernel_rfl
  i139 := by kernel_rfl
  i146 := by kernel_rfl
  m1 := by kernel_rfl
  s1_3 := fun w h => Go.Proofs.cell_of_shapedOpen_int (zero := #[.int .i64 0]) (t := 3) h (of_decide_eq_true (by kernel_rfl)) (by kernel_rfl) rfl (by kernel_rfl) (by kernel_rfl) Tryd.underlying3
  m3 := by kernel_rfl
  m4 := by kernel_rfl }
open Go.RowKit Go.Lib in
theorem Tryd.strings_Split_shaped (s sep : ByteArray) (w : World) (h : w.ShapedOpen Tryd.prog) (hs : s.size < 4294967281) (h1 : 1 ≤ sep.size) :
    Calls Tryd.prog 8 #[.string s, .string sep] w fun e w' =>
      e = .returned (.slice (some ⟨w.heap.size, 0, none⟩) (Lib.countB s sep + 1) (Lib.countB s sep + 1)) ∧ w' = w.alloc (.cells ((Lib.splitB sep 0 (Lib.countB s sep) s).map Value.string).toArray 9) := Any.strings_Split_shaped Tryd.laysM146 s sep w h hs h1
def Tryd.laysPah30_ren : Go.Shelf.Ren := ⟨fun | 30 => 10 | 46 => 16 | 47 => 17 | 48 => 18 | n => n, fun | 9 => 9 | 4 => 4 | 5 => 5 | 3 => 3 | 42 => 32 | 0 => 0 | 48 => 37 | 30 => 30 | n => n, fun | n => n⟩
theorem Tryd.laysPah30 : Go.Proofs.Lays.ph30 Tryd.prog Tryd.laysPah30_ren := {
  mixed := by kernel_rfl
  f30 := Tryd.func10.trans (congrArg some (by kernel_rfl))
  f46 := Tryd.func16.trans (congrArg some (by kernel_rfl))
  f47 := Tryd.func17.trans (congrArg some (by kernel_rfl))
  f48 := Tryd.func18.trans (congrArg some (by kernel_rfl))
  t0 := Tryd.underlying0
  a0 := Tryd.isAgg0
  z0 := Tryd.sizeOf0
  v0 := Tryd.zeroValue0
  t3 := Tryd.underlying3
  a3 := Tryd.isAgg3
  z3 := Tryd.sizeOf3
  v3 := Tryd.zeroValue3
  t4 := Tryd.underlying4
  a4 := Tryd.isAgg4
  z4 := Tryd.sizeOf4
  v4 := Tryd.zeroValue4
  t5 := Tryd.underlying5
  a5 := Tryd.isAgg5
  z5 := Tryd.sizeOf5
  v5 := Tryd.zeroValue5
  t9 := Tryd.underlying9
  a9 := Tryd.isAgg9
  z9 := Tryd.sizeOf9
  v9 := Tryd.zeroValue9
  t30 := Tryd.underlying30
  a30 := Tryd.isAgg30
  z30 := Tryd.sizeOf30
  v30 := Tryd.zeroValue30
  t42 := Tryd.underlying32
  a42 := Tryd.isAgg32
  z42 := Tryd.sizeOf32
  v42 := Tryd.zeroValue32
  t48 := Tryd.underlying37
  a48 := Tryd.isAgg37
  z48 := Tryd.sizeOf37
  v48 := Tryd.zeroValue37
  info5 := by kernel_rfl }
open Go.RowKit Go.Lib in
theorem Tryd.path_Clean (s : ByteArray) (w : World) (hbig : s.size ≤ 281474976710656) :
    Calls Tryd.prog 10 #[.string s] w fun e w' => e = .returned (.string ⟨(Pa.clean s.data.toList).toArray⟩) ∧ Below w.heap.size w w' := Any.path_Clean Tryd.laysPah30 s w hbig
end Go.Proofs
