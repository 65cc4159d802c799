/-
  The library's contracts that are proved once, laid at this seat's program by the kit's own commands (lay-shelf, lay-plain), remarks struck. No walk.
-/
import Derived.Shelf.Strings.Builder1
import Derived.Shelf.Strings.Builder2
import Derived.Shelf.Strings.OnBuilder
import Derived.Shelf.Strings.BuilderF
import Derived.Shelf.Strings.Builder2Cap
import Derived.Shelf.Strings.Search1
import Derived.Shelf.Strings.Search2
import Derived.Shelf.Strings.Search3
import Derived.Shelf.LaysM
import Derived.Shelf.Strings.Shaped
import Derived.Shelf.Strings.LastIndex
import Derived.Shelf.Strings.Prefix
import Derived.Ground.Names2Prog
import Derived.Shelf.Slices.ReverseS
import Derived.Shelf.Slices.Clone
import Derived.Shelf.Slices.Cells
import Derived.Ground.SlgnProg
import Derived.Shelf.SlicesE.Clone
import Derived.Ground.PaProg
import Derived.Shelf.Path.Small
import Derived.Shelf.Path.LazyBuf
import Derived.Shelf.Path.CleanRel
import Derived.Shelf.Path.CleanAbs
import Derived.Shelf.Path.Clean
import Derived.Shelf.Path.Join
import Derived.Shelf.Path.CleanRules
import Derived.Shelf.Path.JoinRules
import Derived.Shelf.Spec.SlicesInsert
import Derived.Shelf.Spec.SlicesInsertGrow
import Derived.Ground.Names8Prog
import Derived.Shelf.Spec.SlicesGrow
import Derived.Shelf.SlGeneric
import Derived.Test.YtgigodblbiiahaaProg
namespace Go.Proofs
open Go.Shelf
def Try.lays156_ren : Go.Shelf.Ren := ⟨fun | 156 => 21 | 165 => 32 | 166 => 33 | 169 => 34 | 240 => 43 | 241 => 44 | 276 => 47 | 277 => 48 | n => n, fun | 31 => 22 | 9 => 9 | 3 => 3 | 4 => 4 | 0 => 0 | 20 => 20 | 72 => 44 | 76 => 48 | 70 => 42 | 37 => 41 | 75 => 47 | 127 => 60 | 164 => 62 | 5 => 5 | 80 => 50 | n => n, fun | n => n⟩
theorem Try.lays156 : Go.Proofs.Lays.n156 Try.prog Try.lays156_ren := {
  mixed := by kernel_rfl
  f156 := Try.func21.trans (congrArg some (by kernel_rfl))
  f165 := Try.func32.trans (congrArg some (by kernel_rfl))
  f166 := Try.func33.trans (congrArg some (by kernel_rfl))
  f169 := Try.func34.trans (congrArg some (by kernel_rfl))
  f240 := Try.func43.trans (congrArg some (by kernel_rfl))
  f241 := Try.func44.trans (congrArg some (by kernel_rfl))
  f276 := Try.func47.trans (congrArg some (by kernel_rfl))
  f277 := Try.func48.trans (congrArg some (by kernel_rfl))
  t0 := Try.underlying0
  a0 := Try.isAgg0
  z0 := Try.sizeOf0
  v0 := Try.zeroValue0
  t3 := Try.underlying3
  a3 := Try.isAgg3
  z3 := Try.sizeOf3
  v3 := Try.zeroValue3
  t4 := Try.underlying4
  a4 := Try.isAgg4
  z4 := Try.sizeOf4
  v4 := Try.zeroValue4
  t9 := Try.underlying9
  a9 := Try.isAgg9
  z9 := Try.sizeOf9
  v9 := Try.zeroValue9
  t20 := Try.underlying20
  a20 := Try.isAgg20
  z20 := Try.sizeOf20
  v20 := Try.zeroValue20
  t31 := Try.underlying22
  a31 := Try.isAgg22
  z31 := Try.sizeOf22
  v31 := Try.zeroValue22
  t37 := Try.underlying41
  a37 := Try.isAgg41
  z37 := Try.sizeOf41
  v37 := Try.zeroValue41
  t70 := Try.underlying42
  a70 := Try.isAgg42
  z70 := Try.sizeOf42
  v70 := Try.zeroValue42
  t72 := Try.underlying44
  a72 := Try.isAgg44
  z72 := Try.sizeOf44
  v72 := Try.zeroValue44
  t75 := Try.underlying47
  a75 := Try.isAgg47
  z75 := Try.sizeOf47
  v75 := Try.zeroValue47
  t76 := Try.underlying48
  a76 := Try.isAgg48
  z76 := Try.sizeOf48
  v76 := Try.zeroValue48
  t127 := Try.underlying60
  a127 := Try.isAgg60
  z127 := Try.sizeOf60
  v127 := Try.zeroValue60
  t164 := Try.underlying62
  a164 := Try.isAgg62
  z164 := Try.sizeOf62
  v164 := Try.zeroValue62 }
theorem Try.Builder_Extra_156 : Builder.Extra Try.prog Try.lays156_ren := {
  sizeBuilder := by kernel_rfl
  liesBuilder := by kernel_rfl
  t5 := Try.underlying5
  a5 := Try.isAgg5
  z5 := Try.sizeOf5
  v5 := Try.zeroValue5
  infoByte := by kernel_rfl
  cellsByte := by kernel_rfl
  sizeByte := by kernel_rfl
  neB5 := by decide }
open Go.RowKit in
theorem Try.strings_Join_none (a : Option Addr) (c : Nat) (sep : ByteArray) (w : World) :
    Calls Try.prog 21 #[.slice a 0 c, .string sep] w fun e w' => e = .returned (.string ⟨#[]⟩) ∧ w' = w := Any.strings_Join_none Try.lays156 Try.Builder_Extra_156 a c sep w
open Go.RowKit in
theorem Try.strings_Join (bk o c : Nat) (xs : List ByteArray) (sep : ByteArray) (w : World) (hcells : ∀ (j : Nat) x, xs[j]? = some x → w.cell? ⟨bk, o + j, none⟩ = some (.string x)) (hbk : bk < w.heap.size) (hN : xs.length ≤ 140737488355328) (hcap : xs.length ≤ c) (hlen : (Lib.join (xs.map (·.data.toList)) sep.data.toList).length ≤ 140737488355328) :
    Calls Try.prog 21 #[.slice (some ⟨bk, o, none⟩) xs.length c, .string sep] w fun e w' => e = .returned (.string ⟨(Lib.join (xs.map (·.data.toList)) sep.data.toList).toArray⟩) ∧ Below w.heap.size w w' := Any.strings_Join Try.lays156 Try.Builder_Extra_156 bk o c xs sep w hcells hbk hN hcap hlen
def Try.lays144_ren : Go.Shelf.Ren := ⟨fun | 144 => 23 | 143 => 36 | 219 => 45 | 217 => 49 | 225 => 50 | 224 => 51 | 267 => 52 | 266 => 54 | 314 => 55 | n => n, fun | 9 => 9 | 4 => 4 | 3 => 3 | 5 => 5 | 46 => 66 | 146 => 69 | 51 => 68 | n => n, fun | 1 => 0 | n => n⟩
theorem Try.lays144 : Go.Proofs.Lays.n144 Try.prog Try.lays144_ren := {
  mixed := by kernel_rfl
  f143 := Try.func36.trans (congrArg some (by kernel_rfl))
  f144 := Try.func23.trans (congrArg some (by kernel_rfl))
  f217 := Try.func49.trans (congrArg some (by kernel_rfl))
  f219 := Try.func45.trans (congrArg some (by kernel_rfl))
  f224 := Try.func51.trans (congrArg some (by kernel_rfl))
  f225 := Try.func50.trans (congrArg some (by kernel_rfl))
  f266 := Try.func54.trans (congrArg some (by kernel_rfl))
  f267 := Try.func52.trans (congrArg some (by kernel_rfl))
  f314 := Try.func55.trans (congrArg some (by kernel_rfl))
  t3 := Try.underlying3
  a3 := Try.isAgg3
  z3 := Try.sizeOf3
  v3 := Try.zeroValue3
  t4 := Try.underlying4
  a4 := Try.isAgg4
  z4 := Try.sizeOf4
  v4 := Try.zeroValue4
  t5 := Try.underlying5
  a5 := Try.isAgg5
  z5 := Try.sizeOf5
  v5 := Try.zeroValue5
  t9 := Try.underlying9
  a9 := Try.isAgg9
  z9 := Try.sizeOf9
  v9 := Try.zeroValue9
  t46 := Try.underlying66
  a46 := Try.isAgg66
  z46 := Try.sizeOf66
  v46 := Try.zeroValue66
  t51 := Try.underlying68
  a51 := Try.isAgg68
  z51 := Try.sizeOf68
  v51 := Try.zeroValue68
  t146 := Try.underlying69
  a146 := Try.isAgg69
  z146 := Try.sizeOf69
  v146 := Try.zeroValue69
  g1 := by kernel_rfl }
open Go.RowKit Go.Lib in
theorem Try.strings_Contains_one (s : ByteArray) (c : UInt8) (w : World) :
    Calls Try.prog 23 #[.string s, .string ⟨#[c]⟩] w fun e w' => e = .returned (.bool (decide (0 ≤ Lib.indexByte s.data.toList c))) ∧ w' = w := Any.strings_Contains_one Try.lays144 s c w
open Go.RowKit Go.Lib in
theorem Try.strings_Contains (s sub : ByteArray) (m : Int) (w : World) (hs : s.size < 4294967281) (hm : w.cell? ⟨0, 0, none⟩ = some (.int .i64 m)) :
    Calls Try.prog 23 #[.string s, .string sub] w fun e w' => e = .returned (.bool (Lib.contains s.data.toList sub.data.toList)) ∧ w' = w := Any.strings_Contains Try.lays144 s sub m w hs hm
def Try.lays99_ren : Go.Shelf.Ren := ⟨fun | 99 => 12 | 206 => 25 | n => n, fun | 9 => 9 | 4 => 4 | 3 => 3 | n => n, fun | n => n⟩
theorem Try.lays99 : Go.Proofs.Lays.n99 Try.prog Try.lays99_ren := {
  mixed := by kernel_rfl
  f99 := Try.func12.trans (congrArg some (by kernel_rfl))
  f206 := Try.func25.trans (congrArg some (by kernel_rfl))
  t3 := Try.underlying3
  a3 := Try.isAgg3
  z3 := Try.sizeOf3
  v3 := Try.zeroValue3
  t4 := Try.underlying4
  a4 := Try.isAgg4
  z4 := Try.sizeOf4
  v4 := Try.zeroValue4
  t9 := Try.underlying9
  a9 := Try.isAgg9
  z9 := Try.sizeOf9
  v9 := Try.zeroValue9 }
open Go.RowKit Go.Lib in
theorem Try.strings_HasPrefix (s p : ByteArray) (w : World) :
    Calls Try.prog 12 #[.string s, .string p] w fun e w' => e = .returned (.bool (Lib.hasPrefix s.data.toList p.data.toList)) ∧ w' = w := Any.strings_HasPrefix Try.lays99 s p w
def Try.laysNm216_ren : Go.Shelf.Ren := ⟨fun | 16 => 13 | n => n, fun | 24 => 22 | 9 => 9 | 4 => 4 | n => n, fun | n => n⟩
theorem Try.laysNm216 : Go.Proofs.Lays2.n16 Try.prog Try.laysNm216_ren := {
  mixed := by kernel_rfl
  f16 := Try.func13.trans (congrArg some (by kernel_rfl))
  t4 := Try.underlying4
  a4 := Try.isAgg4
  z4 := Try.sizeOf4
  v4 := Try.zeroValue4
  t9 := Try.underlying9
  a9 := Try.isAgg9
  z9 := Try.sizeOf9
  v9 := Try.zeroValue9
  t24 := Try.underlying22
  a24 := Try.isAgg22
  z24 := Try.sizeOf22
  v24 := Try.zeroValue22
  i9 := by kernel_rfl }
open Go.RowKit Go.Lib in
theorem Try.slices_Clone_string (b off n c : Nat) (zs : List ByteArray) (w : World) (hz : n ≤ zs.length) (hbig : n * 16 ≤ 140737488355328) (hc : ∀ j, j < zs.length → w.cell? ⟨b, off + j, none⟩ = some (.string (zs.getD j ByteArray.empty))) :
    Calls Try.prog 13 #[.slice (some ⟨b, off, none⟩) n c] w fun e w' => ∃ v', e = .returned v' ∧ w'.ownsRow w.heap.size 9 1 v' n ((zs.take n).map (Value.string)) ∧ v' ≠ .slice none 0 0 ∧ Below w.heap.size w w' := Any.slices_Clone_string Try.laysNm216 b off n c zs w hz hbig hc
open Go.RowKit Go.Lib in
theorem Try.slices_Clone_string_nil (n c : Nat) (w : World) :
    Calls Try.prog 13 #[.slice none n c] w fun e w' => e = .returned (.slice none 0 0) ∧ w' = w := Any.slices_Clone_string_nil Try.laysNm216 n c w
open Go.RowKit Go.Lib in
theorem Try.slices_Clone_string_zero (a : Addr) (c : Nat) (w : World) :
    Calls Try.prog 13 #[.slice (some a) 0 c] w fun e w' => ∃ v', e = .returned v' ∧ w'.ownsRow w.heap.size 9 1 v' 0 [] ∧ v' ≠ .slice none 0 0 ∧ Below w.heap.size w w' := Any.slices_Clone_string_zero Try.laysNm216 a c w
def Try.laysPa29_ren : Go.Shelf.Ren := ⟨fun | 29 => 28 | 45 => 42 | n => n, fun | 9 => 9 | 5 => 5 | 3 => 3 | 4 => 4 | n => n, fun | n => n⟩
theorem Try.laysPa29 : Go.Proofs.Lays.p29 Try.prog Try.laysPa29_ren := {
  mixed := by kernel_rfl
  f29 := Try.func28.trans (congrArg some (by kernel_rfl))
  f45 := Try.func42.trans (congrArg some (by kernel_rfl))
  t3 := Try.underlying3
  a3 := Try.isAgg3
  z3 := Try.sizeOf3
  v3 := Try.zeroValue3
  t4 := Try.underlying4
  a4 := Try.isAgg4
  z4 := Try.sizeOf4
  v4 := Try.zeroValue4
  t5 := Try.underlying5
  a5 := Try.isAgg5
  z5 := Try.sizeOf5
  v5 := Try.zeroValue5
  t9 := Try.underlying9
  a9 := Try.isAgg9
  z9 := Try.sizeOf9
  v9 := Try.zeroValue9 }
open Go.RowKit Go.Lib in
theorem Try.path_Split (s : ByteArray) (w : World) (hs : s.size ≤ 9223372036854775807) :
    Calls Try.prog 28 #[.string s] w fun e w' => e = .returned (.tuple #[.string ⟨(Pa.split s.data.toList).1.toArray⟩, .string ⟨(Pa.split s.data.toList).2.toArray⟩]) ∧ ∃ n, w' = w.drewN n := Any.path_Split Try.laysPa29 s w hs
def Try.laysPa26_ren : Go.Shelf.Ren := ⟨fun | 26 => 31 | n => n, fun | 9 => 9 | 3 => 3 | 4 => 4 | 5 => 5 | n => n, fun | n => n⟩
theorem Try.laysPa26 : Go.Proofs.Lays.p26 Try.prog Try.laysPa26_ren := {
  mixed := by kernel_rfl
  f26 := Try.func31.trans (congrArg some (by kernel_rfl))
  t3 := Try.underlying3
  a3 := Try.isAgg3
  z3 := Try.sizeOf3
  v3 := Try.zeroValue3
  t4 := Try.underlying4
  a4 := Try.isAgg4
  z4 := Try.sizeOf4
  v4 := Try.zeroValue4
  t5 := Try.underlying5
  a5 := Try.isAgg5
  z5 := Try.sizeOf5
  v5 := Try.zeroValue5
  t9 := Try.underlying9
  a9 := Try.isAgg9
  z9 := Try.sizeOf9
  v9 := Try.zeroValue9 }
open Go.RowKit Go.Lib in
theorem Try.path_Ext (s : ByteArray) (w : World) (hs : s.size ≤ 9223372036854775807) :
    Calls Try.prog 31 #[.string s] w fun e w' => e = .returned (.string ⟨(Pa.ext s.data.toList).toArray⟩) ∧ w' = w := Any.path_Ext Try.laysPa26 s w hs
def Try.laysPa25_ren : Go.Shelf.Ren := ⟨fun | 25 => 29 | 45 => 42 | n => n, fun | 9 => 9 | 4 => 4 | 3 => 3 | 5 => 5 | n => n, fun | n => n⟩
theorem Try.laysPa25 : Go.Proofs.Lays.p25 Try.prog Try.laysPa25_ren := {
  mixed := by kernel_rfl
  f25 := Try.func29.trans (congrArg some (by kernel_rfl))
  f45 := Try.func42.trans (congrArg some (by kernel_rfl))
  t3 := Try.underlying3
  a3 := Try.isAgg3
  z3 := Try.sizeOf3
  v3 := Try.zeroValue3
  t4 := Try.underlying4
  a4 := Try.isAgg4
  z4 := Try.sizeOf4
  v4 := Try.zeroValue4
  t5 := Try.underlying5
  a5 := Try.isAgg5
  z5 := Try.sizeOf5
  v5 := Try.zeroValue5
  t9 := Try.underlying9
  a9 := Try.isAgg9
  z9 := Try.sizeOf9
  v9 := Try.zeroValue9 }
open Go.RowKit Go.Lib in
theorem Try.path_Base (s : ByteArray) (w : World) (hs : s.size ≤ 9223372036854775807) :
    Calls Try.prog 29 #[.string s] w fun e w' => e = .returned (.string ⟨(Pa.base s.data.toList).toArray⟩) ∧ w' = w := Any.path_Base Try.laysPa25 s w hs
def Try.laysPah30_ren : Go.Shelf.Ren := ⟨fun | 30 => 26 | 46 => 39 | 47 => 40 | 48 => 41 | n => n, fun | 9 => 9 | 4 => 4 | 5 => 5 | 3 => 3 | 42 => 56 | 0 => 0 | 48 => 61 | 30 => 41 | n => n, fun | n => n⟩
theorem Try.laysPah30 : Go.Proofs.Lays.ph30 Try.prog Try.laysPah30_ren := {
  mixed := by kernel_rfl
  f30 := Try.func26.trans (congrArg some (by kernel_rfl))
  f46 := Try.func39.trans (congrArg some (by kernel_rfl))
  f47 := Try.func40.trans (congrArg some (by kernel_rfl))
  f48 := Try.func41.trans (congrArg some (by kernel_rfl))
  t0 := Try.underlying0
  a0 := Try.isAgg0
  z0 := Try.sizeOf0
  v0 := Try.zeroValue0
  t3 := Try.underlying3
  a3 := Try.isAgg3
  z3 := Try.sizeOf3
  v3 := Try.zeroValue3
  t4 := Try.underlying4
  a4 := Try.isAgg4
  z4 := Try.sizeOf4
  v4 := Try.zeroValue4
  t5 := Try.underlying5
  a5 := Try.isAgg5
  z5 := Try.sizeOf5
  v5 := Try.zeroValue5
  t9 := Try.underlying9
  a9 := Try.isAgg9
  z9 := Try.sizeOf9
  v9 := Try.zeroValue9
  t30 := Try.underlying41
  a30 := Try.isAgg41
  z30 := Try.sizeOf41
  v30 := Try.zeroValue41
  t42 := Try.underlying56
  a42 := Try.isAgg56
  z42 := Try.sizeOf56
  v42 := Try.zeroValue56
  t48 := Try.underlying61
  a48 := Try.isAgg61
  z48 := Try.sizeOf61
  v48 := Try.zeroValue61
  info5 := by kernel_rfl }
open Go.RowKit Go.Lib in
theorem Try.path_Clean (s : ByteArray) (w : World) (hbig : s.size ≤ 281474976710656) :
    Calls Try.prog 26 #[.string s] w fun e w' => e = .returned (.string ⟨(Pa.clean s.data.toList).toArray⟩) ∧ Below w.heap.size w w' := Any.path_Clean Try.laysPah30 s w hbig
def Try.laysPah27_ren : Go.Shelf.Ren := ⟨fun | 27 => 30 | 29 => 28 | 30 => 26 | 45 => 42 | 46 => 39 | 47 => 40 | 48 => 41 | n => n, fun | 9 => 9 | 24 => 29 | 5 => 5 | 3 => 3 | 4 => 4 | 42 => 56 | 0 => 0 | 48 => 61 | 30 => 41 | n => n, fun | n => n⟩
theorem Try.laysPah27 : Go.Proofs.Lays.ph27 Try.prog Try.laysPah27_ren := {
  mixed := by kernel_rfl
  f27 := Try.func30.trans (congrArg some (by kernel_rfl))
  f29 := Try.func28.trans (congrArg some (by kernel_rfl))
  f30 := Try.func26.trans (congrArg some (by kernel_rfl))
  f45 := Try.func42.trans (congrArg some (by kernel_rfl))
  f46 := Try.func39.trans (congrArg some (by kernel_rfl))
  f47 := Try.func40.trans (congrArg some (by kernel_rfl))
  f48 := Try.func41.trans (congrArg some (by kernel_rfl))
  t0 := Try.underlying0
  a0 := Try.isAgg0
  z0 := Try.sizeOf0
  v0 := Try.zeroValue0
  t3 := Try.underlying3
  a3 := Try.isAgg3
  z3 := Try.sizeOf3
  v3 := Try.zeroValue3
  t4 := Try.underlying4
  a4 := Try.isAgg4
  z4 := Try.sizeOf4
  v4 := Try.zeroValue4
  t5 := Try.underlying5
  a5 := Try.isAgg5
  z5 := Try.sizeOf5
  v5 := Try.zeroValue5
  t9 := Try.underlying9
  a9 := Try.isAgg9
  z9 := Try.sizeOf9
  v9 := Try.zeroValue9
  t24 := Try.underlying29
  a24 := Try.isAgg29
  z24 := Try.sizeOf29
  v24 := Try.zeroValue29
  t30 := Try.underlying41
  a30 := Try.isAgg41
  z30 := Try.sizeOf41
  v30 := Try.zeroValue41
  t42 := Try.underlying56
  a42 := Try.isAgg56
  z42 := Try.sizeOf56
  v42 := Try.zeroValue56
  t48 := Try.underlying61
  a48 := Try.isAgg61
  z48 := Try.sizeOf61
  v48 := Try.zeroValue61
  info5 := by kernel_rfl }
open Go.RowKit Go.Lib in
theorem Try.path_Dir (s : ByteArray) (w : World) (hbig : s.size ≤ 281474976710656) :
    Calls Try.prog 30 #[.string s] w fun e w' => e = .returned (.string ⟨(Pa.dir s.data.toList).toArray⟩) ∧ Below w.heap.size w w' := Any.path_Dir Try.laysPah27 s w hbig
def Try.laysPah31_ren : Go.Shelf.Ren := ⟨fun | 31 => 27 | 30 => 26 | 46 => 39 | 47 => 40 | 48 => 41 | n => n, fun | 26 => 22 | 9 => 9 | 3 => 3 | 0 => 0 | 4 => 4 | 30 => 41 | 5 => 5 | 42 => 56 | 48 => 61 | n => n, fun | n => n⟩
theorem Try.laysPah31 : Go.Proofs.Lays.ph31 Try.prog Try.laysPah31_ren := {
  mixed := by kernel_rfl
  f30 := Try.func26.trans (congrArg some (by kernel_rfl))
  f31 := Try.func27.trans (congrArg some (by kernel_rfl))
  f46 := Try.func39.trans (congrArg some (by kernel_rfl))
  f47 := Try.func40.trans (congrArg some (by kernel_rfl))
  f48 := Try.func41.trans (congrArg some (by kernel_rfl))
  t0 := Try.underlying0
  a0 := Try.isAgg0
  z0 := Try.sizeOf0
  v0 := Try.zeroValue0
  t3 := Try.underlying3
  a3 := Try.isAgg3
  z3 := Try.sizeOf3
  v3 := Try.zeroValue3
  t4 := Try.underlying4
  a4 := Try.isAgg4
  z4 := Try.sizeOf4
  v4 := Try.zeroValue4
  t5 := Try.underlying5
  a5 := Try.isAgg5
  z5 := Try.sizeOf5
  v5 := Try.zeroValue5
  t9 := Try.underlying9
  a9 := Try.isAgg9
  z9 := Try.sizeOf9
  v9 := Try.zeroValue9
  t26 := Try.underlying22
  a26 := Try.isAgg22
  z26 := Try.sizeOf22
  v26 := Try.zeroValue22
  t30 := Try.underlying41
  a30 := Try.isAgg41
  z30 := Try.sizeOf41
  v30 := Try.zeroValue41
  t42 := Try.underlying56
  a42 := Try.isAgg56
  z42 := Try.sizeOf56
  v42 := Try.zeroValue56
  t48 := Try.underlying61
  a48 := Try.isAgg61
  z48 := Try.sizeOf61
  v48 := Try.zeroValue61
  info5 := by kernel_rfl }
open Go.RowKit Go.Lib in
theorem Try.path_Join_nil (w : World) :
    Calls Try.prog 27 #[.slice none 0 0] w fun e w' => e = .returned (.string ⟨#[]⟩) ∧ w' = w := Any.path_Join_nil Try.laysPah31 w
open Go.RowKit Go.Lib in
theorem Try.path_Join_rules (bk o c : Nat) (xs : List ByteArray) (w : World) (hcells : ∀ (j : Nat) x, xs[j]? = some x → w.cell? ⟨bk, o + j, none⟩ = some (.string x)) (hbk : bk < w.heap.size) (hlen : Pa.lens (xs.map (·.data.toList)) + xs.length ≤ 281474976710656) :
    Calls Try.prog 27 #[.slice (some ⟨bk, o, none⟩) xs.length c] w fun e w' => e = .returned (.string ⟨(Pa.join (xs.map (·.data.toList))).toArray⟩) ∧ Below w.heap.size w w' := Any.path_Join_rules Try.laysPah31 bk o c xs w hcells hbk hlen
def Try.insertS_ren : Go.Shelf.Ren := ⟨fun | 22 => 24 | 29 => 37 | 30 => 38 | 36 => 46 | 17 => 53 | n => n, fun | 24 => 22 | 9 => 9 | 3 => 3 | 4 => 4 | 0 => 0 | n => n, fun | n => n⟩
theorem Try.insertS : Go.Proofs.Lays2.n22 Try.prog Try.insertS_ren := {
  mixed := by kernel_rfl
  f17 := Try.func53.trans (congrArg some (by kernel_rfl))
  f22 := Try.func24.trans (congrArg some (by kernel_rfl))
  f29 := Try.func37.trans (congrArg some (by kernel_rfl))
  f30 := Try.func38.trans (congrArg some (by kernel_rfl))
  f36 := Try.func46.trans (congrArg some (by kernel_rfl))
  t0 := Try.underlying0
  a0 := Try.isAgg0
  z0 := Try.sizeOf0
  v0 := Try.zeroValue0
  t3 := Try.underlying3
  a3 := Try.isAgg3
  z3 := Try.sizeOf3
  v3 := Try.zeroValue3
  t4 := Try.underlying4
  a4 := Try.isAgg4
  z4 := Try.sizeOf4
  v4 := Try.zeroValue4
  t9 := Try.underlying9
  a9 := Try.isAgg9
  z9 := Try.sizeOf9
  v9 := Try.zeroValue9
  t24 := Try.underlying22
  a24 := Try.isAgg22
  z24 := Try.sizeOf22
  v24 := Try.zeroValue22
  i9 := by kernel_rfl }
def Try.growS_ren : Go.Shelf.Ren := ⟨fun | 4 => 35 | n => n, fun | 22 => 22 | 25 => 9 | 3 => 3 | 4 => 4 | 9 => 9 | 20 => 20 | 0 => 0 | n => n, fun | n => n⟩
theorem Try.growS : Go.Proofs.Lays8.n4 Try.prog Try.growS_ren := {
  mixed := by kernel_rfl
  f4 := ⟨Try.f35.name, by decide, Try.func35.trans (congrArg some (by kernel_rfl))⟩
  t0 := Try.underlying0
  a0 := Try.isAgg0
  z0 := Try.sizeOf0
  v0 := Try.zeroValue0
  t3 := Try.underlying3
  a3 := Try.isAgg3
  z3 := Try.sizeOf3
  v3 := Try.zeroValue3
  t4 := Try.underlying4
  a4 := Try.isAgg4
  z4 := Try.sizeOf4
  v4 := Try.zeroValue4
  t9 := Try.underlying9
  a9 := Try.isAgg9
  z9 := Try.sizeOf9
  v9 := Try.zeroValue9
  t20 := Try.underlying20
  a20 := Try.isAgg20
  z20 := Try.sizeOf20
  v20 := Try.zeroValue20
  t22 := Try.underlying22
  a22 := Try.isAgg22
  z22 := Try.sizeOf22
  v22 := Try.zeroValue22 }
end Go.Proofs
