/-
  The library's contracts that are proved once, laid at this seat's program by the kit's own commands (lay-shelf, lay-plain), remarks struck. No walk.
-/
import Derived.Shelf.Strings.Builder1
import Derived.Shelf.Strings.Builder2
import Derived.Shelf.Small.Utf8
import Derived.Shelf.Small.Strs
import Derived.Shelf.Strings.BuilderF
import Derived.Shelf.Strings.Search1
import Derived.Shelf.Strings.Search2
import Derived.Shelf.Strings.Search3
import Derived.Shelf.Strings.Count
import Derived.Shelf.LaysM
import Derived.Shelf.Strings.Shaped
import Derived.Shelf.Strings.LastIndex
import Derived.Shelf.Strings.LastIndexAll
import Derived.Shelf.Strings.Prefix
import Derived.Shelf.Strings.Split
import Derived.Shelf.Strings.Runes
import Derived.Shelf.Strings.IndexAny
import Derived.Shelf.Strings.AsciiSet
import Derived.Shelf.Strings.IndexAnyAll
import Derived.Shelf.Bits.Mul64
import Derived.Shelf.Strings.Repeat
import Derived.Ground.PaProg
import Derived.Shelf.Path.Small
import Derived.Shelf.Path.LazyBuf
import Derived.Shelf.Path.CleanRel
import Derived.Shelf.Path.CleanAbs
import Derived.Shelf.Path.Clean
import Derived.Shelf.Path.Join
import Derived.Shelf.Path.CleanRules
import Derived.Shelf.Path.JoinRules
import Derived.Test.YtflkalhidikhaaaProg
namespace Go.Proofs
open Go.Shelf
def Try.lays137_ren : Go.Shelf.Ren := ⟨fun | 137 => 68 | 217 => 62 | 266 => 70 | n => n, fun | 9 => 9 | 5 => 5 | 3 => 3 | n => n, fun | n => n⟩
theorem Try.lays137 : Go.Proofs.Lays.n137 Try.prog Try.lays137_ren := {
  mixed := by kernel_rfl
  f137 := Try.func68.trans (congrArg some (by kernel_rfl))
  f217 := Try.func62.trans (congrArg some (by kernel_rfl))
  f266 := Try.func70.trans (congrArg some (by kernel_rfl))
  t3 := Try.underlying3
  a3 := Try.isAgg3
  z3 := Try.sizeOf3
  v3 := Try.zeroValue3
  t5 := Try.underlying5
  a5 := Try.isAgg5
  z5 := Try.sizeOf5
  v5 := Try.zeroValue5
  t9 := Try.underlying9
  a9 := Try.isAgg9
  z9 := Try.sizeOf9
  v9 := Try.zeroValue9 }
open Go.RowKit in
theorem Try.strings_IndexByte (s : ByteArray) (c : Int) (w : World) :
    Calls Try.prog 68 #[.string s, .int .u8 c] w fun e w' => e = .returned (.int .i64 (Lib.indexByte s.data.toList c.toNat.toUInt8)) ∧ w' = w := Any.strings_IndexByte Try.lays137 s c w
def Try.lays144_ren : Go.Shelf.Ren := ⟨fun | 144 => 16 | 143 => 30 | 219 => 47 | 217 => 62 | 225 => 63 | 224 => 64 | 267 => 65 | 266 => 70 | 314 => 71 | n => n, fun | 9 => 9 | 4 => 4 | 3 => 3 | 5 => 5 | 46 => 35 | 146 => 52 | 51 => 51 | n => n, fun | 1 => 0 | n => n⟩
theorem Try.lays144 : Go.Proofs.Lays.n144 Try.prog Try.lays144_ren := {
  mixed := by kernel_rfl
  f143 := Try.func30.trans (congrArg some (by kernel_rfl))
  f144 := Try.func16.trans (congrArg some (by kernel_rfl))
  f217 := Try.func62.trans (congrArg some (by kernel_rfl))
  f219 := Try.func47.trans (congrArg some (by kernel_rfl))
  f224 := Try.func64.trans (congrArg some (by kernel_rfl))
  f225 := Try.func63.trans (congrArg some (by kernel_rfl))
  f266 := Try.func70.trans (congrArg some (by kernel_rfl))
  f267 := Try.func65.trans (congrArg some (by kernel_rfl))
  f314 := Try.func71.trans (congrArg some (by kernel_rfl))
  t3 := Try.underlying3
  a3 := Try.isAgg3
  z3 := Try.sizeOf3
  v3 := Try.zeroValue3
  t4 := Try.underlying4
  a4 := Try.isAgg4
  z4 := Try.sizeOf4
  v4 := Try.zeroValue4
  t5 := Try.underlying5
  a5 := Try.isAgg5
  z5 := Try.sizeOf5
  v5 := Try.zeroValue5
  t9 := Try.underlying9
  a9 := Try.isAgg9
  z9 := Try.sizeOf9
  v9 := Try.zeroValue9
  t46 := Try.underlying35
  a46 := Try.isAgg35
  z46 := Try.sizeOf35
  v46 := Try.zeroValue35
  t51 := Try.underlying51
  a51 := Try.isAgg51
  z51 := Try.sizeOf51
  v51 := Try.zeroValue51
  t146 := Try.underlying52
  a146 := Try.isAgg52
  z146 := Try.sizeOf52
  v146 := Try.zeroValue52
  g1 := by kernel_rfl }
open Go.RowKit Go.Lib in
theorem Try.strings_Contains_one (s : ByteArray) (c : UInt8) (w : World) :
    Calls Try.prog 16 #[.string s, .string ⟨#[c]⟩] w fun e w' => e = .returned (.bool (decide (0 ≤ Lib.indexByte s.data.toList c))) ∧ w' = w := Any.strings_Contains_one Try.lays144 s c w
open Go.RowKit Go.Lib in
theorem Try.strings_Contains (s sub : ByteArray) (m : Int) (w : World) (hs : s.size < 4294967281) (hm : w.cell? ⟨0, 0, none⟩ = some (.int .i64 m)) :
    Calls Try.prog 16 #[.string s, .string sub] w fun e w' => e = .returned (.bool (Lib.contains s.data.toList sub.data.toList)) ∧ w' = w := Any.strings_Contains Try.lays144 s sub m w hs hm
def Try.lays138_ren : Go.Shelf.Ren := ⟨fun | 138 => 44 | 195 => 60 | 218 => 61 | 143 => 30 | 219 => 47 | 217 => 62 | 225 => 63 | 224 => 64 | 267 => 65 | 266 => 70 | 314 => 71 | n => n, fun | 9 => 9 | 3 => 3 | 4 => 4 | 5 => 5 | 0 => 0 | 46 => 35 | 146 => 52 | 51 => 51 | n => n, fun | 1 => 0 | n => n⟩
theorem Try.lays138 : Go.Proofs.Lays.n138 Try.prog Try.lays138_ren := {
  mixed := by kernel_rfl
  f138 := Try.func44.trans (congrArg some (by kernel_rfl))
  f143 := Try.func30.trans (congrArg some (by kernel_rfl))
  f195 := Try.func60.trans (congrArg some (by kernel_rfl))
  f217 := Try.func62.trans (congrArg some (by kernel_rfl))
  f218 := Try.func61.trans (congrArg some (by kernel_rfl))
  f219 := Try.func47.trans (congrArg some (by kernel_rfl))
  f224 := Try.func64.trans (congrArg some (by kernel_rfl))
  f225 := Try.func63.trans (congrArg some (by kernel_rfl))
  f266 := Try.func70.trans (congrArg some (by kernel_rfl))
  f267 := Try.func65.trans (congrArg some (by kernel_rfl))
  f314 := Try.func71.trans (congrArg some (by kernel_rfl))
  t0 := Try.underlying0
  a0 := Try.isAgg0
  z0 := Try.sizeOf0
  v0 := Try.zeroValue0
  t3 := Try.underlying3
  a3 := Try.isAgg3
  z3 := Try.sizeOf3
  v3 := Try.zeroValue3
  t4 := Try.underlying4
  a4 := Try.isAgg4
  z4 := Try.sizeOf4
  v4 := Try.zeroValue4
  t5 := Try.underlying5
  a5 := Try.isAgg5
  z5 := Try.sizeOf5
  v5 := Try.zeroValue5
  t9 := Try.underlying9
  a9 := Try.isAgg9
  z9 := Try.sizeOf9
  v9 := Try.zeroValue9
  t46 := Try.underlying35
  a46 := Try.isAgg35
  z46 := Try.sizeOf35
  v46 := Try.zeroValue35
  t51 := Try.underlying51
  a51 := Try.isAgg51
  z51 := Try.sizeOf51
  v51 := Try.zeroValue51
  t146 := Try.underlying52
  a146 := Try.isAgg52
  z146 := Try.sizeOf52
  v146 := Try.zeroValue52
  g1 := by kernel_rfl }
open Go.RowKit Go.Lib in
theorem Try.strings_Count_one (s : ByteArray) (c : UInt8) (w : World) :
    Calls Try.prog 44 #[.string s, .string ⟨#[c]⟩] w fun e w' => e = .returned (.int .i64 (Lib.countByte s.data.toList c)) ∧ w' = w := Any.strings_Count_one Try.lays138 s c w
def Try.laysM144_ren : Go.Shelf.Ren := ⟨fun | 144 => 16 | 143 => 30 | 219 => 47 | 217 => 62 | 225 => 63 | 224 => 64 | 267 => 65 | 266 => 70 | 314 => 71 | n => n, fun | 9 => 9 | 4 => 4 | 3 => 3 | 5 => 5 | 46 => 35 | 146 => 52 | 51 => 51 | n => n, fun | 1 => 0 | n => n⟩
theorem Try.laysM144 : Go.Proofs.LaysM.n144 Try.prog Try.laysM144_ren := {
  mixed := by kernel_rfl
  f143 := Try.func30.trans (congrArg some (by kernel_rfl))
  f144 := Try.func16.trans (congrArg some (by kernel_rfl))
  f217 := Try.func62.trans (congrArg some (by kernel_rfl))
  f219 := Try.func47.trans (congrArg some (by kernel_rfl))
  f224 := Try.func64.trans (congrArg some (by kernel_rfl))
  f225 := Try.func63.trans (congrArg some (by kernel_rfl))
  f266 := Try.func70.trans (congrArg some (by kernel_rfl))
  f267 := Try.func65.trans (congrArg some (by kernel_rfl))
  f314 := Try.func71.trans (congrArg some (by kernel_rfl))
  t3 := Try.underlying3
  a3 := Try.isAgg3
  z3 := Try.sizeOf3
  v3 := Try.zeroValue3
  t4 := Try.underlying4
  a4 := Try.isAgg4
  z4 := Try.sizeOf4
  v4 := Try.zeroValue4
  t5 := Try.underlying5
  a5 := Try.isAgg5
  z5 := Try.sizeOf5
  v5 := Try.zeroValue5
  t9 := Try.underlying9
  a9 := Try.isAgg9
  z9 := Try.sizeOf9
  v9 := Try.zeroValue9
  t46 := Try.underlying35
  a46 := Try.isAgg35
  z46 := Try.sizeOf35
  v46 := Try.zeroValue35
  t51 := Try.underlying51
  a51 := Try.isAgg51
  z51 := Try.sizeOf51
  v51 := Try.zeroValue51
  t146 := Try.underlying52
  a146 := Try.isAgg52
  z146 := Try.sizeOf52
  v146 := Try.zeroValue52
  g1 := by kernel_rfl
  i3 := by kernel_rfl
  i4 := by kernel_rfl
  i5 := by kernel_rfl
  i9 := by kernel_rfl
  i46 := by kernel_rfl
  i51 := by kernel_rfl
  i146 := by kernel_rfl
  m1 := by kernel_rfl
  s1_3 := fun w h => Go.Proofs.cell_of_shapedOpen_int (zero := #[.int .i64 0]) (t := 3) h (of_decide_eq_true (by kernel_rfl)) (by kernel_rfl) rfl (by kernel_rfl) (by kernel_rfl) Try.underlying3 }
open Go.RowKit Go.Lib in
theorem Try.strings_Contains_shaped (s sub : ByteArray) (w : World) (h : w.ShapedOpen Try.prog) (hs : s.size < 4294967281) :
    Calls Try.prog 16 #[.string s, .string sub] w fun e w' => e = .returned (.bool (Lib.contains s.data.toList sub.data.toList)) ∧ w' = w := Any.strings_Contains_shaped Try.laysM144 s sub w h hs
def Try.lays148_ren : Go.Shelf.Ren := ⟨fun | 148 => 23 | 222 => 41 | 223 => 42 | 269 => 59 | n => n, fun | 9 => 9 | 3 => 3 | 4 => 4 | 5 => 5 | 146 => 52 | 51 => 51 | 46 => 35 | n => n, fun | n => n⟩
theorem Try.lays148 : Go.Proofs.Lays.n148 Try.prog Try.lays148_ren := {
  mixed := by kernel_rfl
  f148 := Try.func23.trans (congrArg some (by kernel_rfl))
  f222 := Try.func41.trans (congrArg some (by kernel_rfl))
  f223 := Try.func42.trans (congrArg some (by kernel_rfl))
  f269 := Try.func59.trans (congrArg some (by kernel_rfl))
  t3 := Try.underlying3
  a3 := Try.isAgg3
  z3 := Try.sizeOf3
  v3 := Try.zeroValue3
  t4 := Try.underlying4
  a4 := Try.isAgg4
  z4 := Try.sizeOf4
  v4 := Try.zeroValue4
  t5 := Try.underlying5
  a5 := Try.isAgg5
  z5 := Try.sizeOf5
  v5 := Try.zeroValue5
  t9 := Try.underlying9
  a9 := Try.isAgg9
  z9 := Try.sizeOf9
  v9 := Try.zeroValue9
  t46 := Try.underlying35
  a46 := Try.isAgg35
  z46 := Try.sizeOf35
  v46 := Try.zeroValue35
  t51 := Try.underlying51
  a51 := Try.isAgg51
  z51 := Try.sizeOf51
  v51 := Try.zeroValue51
  t146 := Try.underlying52
  a146 := Try.isAgg52
  z146 := Try.sizeOf52
  v146 := Try.zeroValue52 }
open Go.RowKit Go.Lib in
theorem Try.strings_LastIndex_one (s sub : ByteArray) (h1 : sub.size = 1) (hs : s.size < 4611686018427387904) (w : World) :
    Calls Try.prog 23 #[.string s, .string sub] w fun e w' => e = .returned (.int .i64 (Lib.lastIndexByte s ((sub[0]'(by omega)).toNat : Int))) ∧ w' = w := Any.strings_LastIndex_one Try.lays148 s sub h1 hs w
def Try.lays99_ren : Go.Shelf.Ren := ⟨fun | 99 => 26 | 206 => 45 | n => n, fun | 9 => 9 | 4 => 4 | 3 => 3 | n => n, fun | n => n⟩
theorem Try.lays99 : Go.Proofs.Lays.n99 Try.prog Try.lays99_ren := {
  mixed := by kernel_rfl
  f99 := Try.func26.trans (congrArg some (by kernel_rfl))
  f206 := Try.func45.trans (congrArg some (by kernel_rfl))
  t3 := Try.underlying3
  a3 := Try.isAgg3
  z3 := Try.sizeOf3
  v3 := Try.zeroValue3
  t4 := Try.underlying4
  a4 := Try.isAgg4
  z4 := Try.sizeOf4
  v4 := Try.zeroValue4
  t9 := Try.underlying9
  a9 := Try.isAgg9
  z9 := Try.sizeOf9
  v9 := Try.zeroValue9 }
open Go.RowKit Go.Lib in
theorem Try.strings_HasPrefix (s p : ByteArray) (w : World) :
    Calls Try.prog 26 #[.string s, .string p] w fun e w' => e = .returned (.bool (Lib.hasPrefix s.data.toList p.data.toList)) ∧ w' = w := Any.strings_HasPrefix Try.lays99 s p w
def Try.lays100_ren : Go.Shelf.Ren := ⟨fun | 100 => 15 | 207 => 29 | n => n, fun | 9 => 9 | 4 => 4 | 3 => 3 | n => n, fun | n => n⟩
theorem Try.lays100 : Go.Proofs.Lays.n100 Try.prog Try.lays100_ren := {
  mixed := by kernel_rfl
  f100 := Try.func15.trans (congrArg some (by kernel_rfl))
  f207 := Try.func29.trans (congrArg some (by kernel_rfl))
  t3 := Try.underlying3
  a3 := Try.isAgg3
  z3 := Try.sizeOf3
  v3 := Try.zeroValue3
  t4 := Try.underlying4
  a4 := Try.isAgg4
  z4 := Try.sizeOf4
  v4 := Try.zeroValue4
  t9 := Try.underlying9
  a9 := Try.isAgg9
  z9 := Try.sizeOf9
  v9 := Try.zeroValue9 }
open Go.RowKit Go.Lib in
theorem Try.strings_HasSuffix (s p : ByteArray) (w : World) (hs : s.size ≤ 9223372036854775807) :
    Calls Try.prog 15 #[.string s, .string p] w fun e w' => e = .returned (.bool (Lib.hasSuffix s.data.toList p.data.toList)) ∧ w' = w := Any.strings_HasSuffix Try.lays100 s p w hs
def Try.lays152_ren : Go.Shelf.Ren := ⟨fun | 152 => 52 | 137 => 68 | 119 => 69 | 224 => 64 | 225 => 63 | 217 => 62 | 266 => 70 | n => n, fun | 9 => 9 | 21 => 21 | 3 => 3 | 4 => 4 | 5 => 5 | 0 => 0 | 46 => 35 | n => n, fun | n => n⟩
theorem Try.lays152 : Go.Proofs.Lays.n152 Try.prog Try.lays152_ren := {
  mixed := by kernel_rfl
  f119 := Try.func69.trans (congrArg some (by kernel_rfl))
  f137 := Try.func68.trans (congrArg some (by kernel_rfl))
  f152 := Try.func52.trans (congrArg some (by kernel_rfl))
  f217 := Try.func62.trans (congrArg some (by kernel_rfl))
  f224 := Try.func64.trans (congrArg some (by kernel_rfl))
  f225 := Try.func63.trans (congrArg some (by kernel_rfl))
  f266 := Try.func70.trans (congrArg some (by kernel_rfl))
  t0 := Try.underlying0
  a0 := Try.isAgg0
  z0 := Try.sizeOf0
  v0 := Try.zeroValue0
  t3 := Try.underlying3
  a3 := Try.isAgg3
  z3 := Try.sizeOf3
  v3 := Try.zeroValue3
  t4 := Try.underlying4
  a4 := Try.isAgg4
  z4 := Try.sizeOf4
  v4 := Try.zeroValue4
  t5 := Try.underlying5
  a5 := Try.isAgg5
  z5 := Try.sizeOf5
  v5 := Try.zeroValue5
  t9 := Try.underlying9
  a9 := Try.isAgg9
  z9 := Try.sizeOf9
  v9 := Try.zeroValue9
  t21 := Try.underlying21
  a21 := Try.isAgg21
  z21 := Try.sizeOf21
  v21 := Try.zeroValue21
  t46 := Try.underlying35
  a46 := Try.isAgg35
  z46 := Try.sizeOf35
  v46 := Try.zeroValue35 }
open Go.RowKit Go.Lib in
theorem Try.strings_IndexRune_ascii (s : ByteArray) (r : Int) (w : World) (h0 : 0 ≤ r) (h1 : r < 128) :
    Calls Try.prog 52 #[.string s, .int .i32 r] w fun e w' => e = .returned (.int .i64 (Lib.indexByte s.data.toList r.toNat.toUInt8)) ∧ w' = w := Any.strings_IndexRune_ascii Try.lays152 s r w h0 h1
def Try.lays226_ren : Go.Shelf.Ren := ⟨fun | 226 => 53 | n => n, fun | 3 => 3 | 4 => 4 | n => n, fun | n => n⟩
theorem Try.lays226 : Go.Proofs.Lays.n226 Try.prog Try.lays226_ren := {
  mixed := by kernel_rfl
  f226 := Try.func53.trans (congrArg some (by kernel_rfl))
  t3 := Try.underlying3
  a3 := Try.isAgg3
  z3 := Try.sizeOf3
  v3 := Try.zeroValue3
  t4 := Try.underlying4
  a4 := Try.isAgg4
  z4 := Try.sizeOf4
  v4 := Try.zeroValue4 }
open Go.RowKit Go.Lib in
theorem Try.strings_shouldUseASCIISet (n : Int) (w : World) :
    Calls Try.prog 53 #[.int .i64 n] w fun e w' => e = .returned (.bool (decide (8 < n))) ∧ w' = w := Any.strings_shouldUseASCIISet Try.lays226 n w
def Try.lays153_ren : Go.Shelf.Ren := ⟨fun | 153 => 38 | 152 => 52 | 226 => 53 | 227 => 54 | 228 => 55 | 137 => 68 | 119 => 69 | 224 => 64 | 225 => 63 | 217 => 62 | 266 => 70 | n => n, fun | 9 => 9 | 3 => 3 | 4 => 4 | 5 => 5 | 21 => 21 | 117 => 62 | 116 => 61 | 0 => 0 | 46 => 35 | 124 => 76 | n => n, fun | n => n⟩
theorem Try.lays153 : Go.Proofs.Lays.n153 Try.prog Try.lays153_ren := {
  mixed := by kernel_rfl
  f119 := Try.func69.trans (congrArg some (by kernel_rfl))
  f137 := Try.func68.trans (congrArg some (by kernel_rfl))
  f152 := Try.func52.trans (congrArg some (by kernel_rfl))
  f153 := Try.func38.trans (congrArg some (by kernel_rfl))
  f217 := Try.func62.trans (congrArg some (by kernel_rfl))
  f224 := Try.func64.trans (congrArg some (by kernel_rfl))
  f225 := Try.func63.trans (congrArg some (by kernel_rfl))
  f226 := Try.func53.trans (congrArg some (by kernel_rfl))
  f227 := Try.func54.trans (congrArg some (by kernel_rfl))
  f228 := Try.func55.trans (congrArg some (by kernel_rfl))
  f266 := Try.func70.trans (congrArg some (by kernel_rfl))
  t0 := Try.underlying0
  a0 := Try.isAgg0
  z0 := Try.sizeOf0
  v0 := Try.zeroValue0
  t3 := Try.underlying3
  a3 := Try.isAgg3
  z3 := Try.sizeOf3
  v3 := Try.zeroValue3
  t4 := Try.underlying4
  a4 := Try.isAgg4
  z4 := Try.sizeOf4
  v4 := Try.zeroValue4
  t5 := Try.underlying5
  a5 := Try.isAgg5
  z5 := Try.sizeOf5
  v5 := Try.zeroValue5
  t9 := Try.underlying9
  a9 := Try.isAgg9
  z9 := Try.sizeOf9
  v9 := Try.zeroValue9
  t21 := Try.underlying21
  a21 := Try.isAgg21
  z21 := Try.sizeOf21
  v21 := Try.zeroValue21
  t46 := Try.underlying35
  a46 := Try.isAgg35
  z46 := Try.sizeOf35
  v46 := Try.zeroValue35
  t116 := Try.underlying61
  a116 := Try.isAgg61
  z116 := Try.sizeOf61
  t117 := Try.underlying62
  a117 := Try.isAgg62
  z117 := Try.sizeOf62
  v117 := Try.zeroValue62
  t124 := Try.underlying76
  a124 := Try.isAgg76
  z124 := Try.sizeOf76
  v124 := Try.zeroValue76 }
open Go.RowKit Go.Lib in
theorem Try.strings_IndexAny_short (s chars : ByteArray) (w : World) (h2 : 2 ≤ chars.size) (h8 : s.size ≤ 8) (hascii : ∀ (j : Nat) b, s.data.toList[j]? = some b → b.toNat < 128) :
    Calls Try.prog 38 #[.string s, .string chars] w fun e w' => e = .returned (.int .i64 (Lib.indexAny s.data.toList chars.data.toList)) ∧ ∃ pos, w' = w.iter s pos := Any.strings_IndexAny_short Try.lays153 s chars w h2 h8 hascii
def Try.lays227_ren : Go.Shelf.Ren := ⟨fun | 227 => 54 | n => n, fun | 9 => 9 | 116 => 61 | 4 => 4 | 0 => 0 | 3 => 3 | 5 => 5 | n => n, fun | n => n⟩
theorem Try.lays227 : Go.Proofs.Lays.n227 Try.prog Try.lays227_ren := {
  mixed := by kernel_rfl
  f227 := Try.func54.trans (congrArg some (by kernel_rfl))
  t0 := Try.underlying0
  a0 := Try.isAgg0
  z0 := Try.sizeOf0
  v0 := Try.zeroValue0
  t3 := Try.underlying3
  a3 := Try.isAgg3
  z3 := Try.sizeOf3
  v3 := Try.zeroValue3
  t4 := Try.underlying4
  a4 := Try.isAgg4
  z4 := Try.sizeOf4
  v4 := Try.zeroValue4
  t5 := Try.underlying5
  a5 := Try.isAgg5
  z5 := Try.sizeOf5
  v5 := Try.zeroValue5
  t9 := Try.underlying9
  a9 := Try.isAgg9
  z9 := Try.sizeOf9
  v9 := Try.zeroValue9
  t116 := Try.underlying61
  a116 := Try.isAgg61
  z116 := Try.sizeOf61 }
open Go.RowKit Go.Lib in
theorem Try.strings_makeASCIISet (hv116 : ∀ w, (zeroValue 61).run Try.prog w = .ok (.agg (Array.replicate 256 (.bool false))) w) (chars : ByteArray) (w : World) (hs : chars.size < 4294967281) (hascii : ∀ (j : Nat) b, chars.data.toList[j]? = some b → b.toNat < 128) :
    Calls Try.prog 54 #[.string chars] w fun e w' => e = .returned (.tuple #[.agg (Lib.setCells chars.data.toList), .bool true]) ∧ w' = w.alloc (.cells (Lib.setCells chars.data.toList) 61) := Any.strings_makeASCIISet Try.lays227 hv116 (by kernel_rfl) chars w hs hascii
def Try.lays228_ren : Go.Shelf.Ren := ⟨fun | 228 => 55 | n => n, fun | 124 => 76 | 5 => 5 | 4 => 4 | 0 => 0 | 116 => 61 | n => n, fun | n => n⟩
theorem Try.lays228 : Go.Proofs.Lays.n228 Try.prog Try.lays228_ren := {
  mixed := by kernel_rfl
  f228 := Try.func55.trans (congrArg some (by kernel_rfl))
  t0 := Try.underlying0
  a0 := Try.isAgg0
  z0 := Try.sizeOf0
  v0 := Try.zeroValue0
  t4 := Try.underlying4
  a4 := Try.isAgg4
  z4 := Try.sizeOf4
  v4 := Try.zeroValue4
  t5 := Try.underlying5
  a5 := Try.isAgg5
  z5 := Try.sizeOf5
  v5 := Try.zeroValue5
  t116 := Try.underlying61
  a116 := Try.isAgg61
  z116 := Try.sizeOf61
  t124 := Try.underlying76
  a124 := Try.isAgg76
  z124 := Try.sizeOf76
  v124 := Try.zeroValue76 }
open Go.RowKit Go.Lib in
theorem Try.asciiSet_contains (b : Nat) (x : UInt8) (v : Bool) (w : World) (hc : w.cell? ⟨b, x.toNat, none⟩ = some (.bool v)) :
    Calls Try.prog 55 #[.pointer (some ⟨b, 0, none⟩), .int .u8 x.toNat] w fun e w' => e = .returned (.bool v) ∧ w' = w := Any.asciiSet_contains Try.lays228 b x v w hc
open Go.RowKit Go.Lib in
theorem Try.strings_IndexAny_long (hv116 : ∀ w, (zeroValue 61).run Try.prog w = .ok (.agg (Array.replicate 256 (.bool false))) w) (s chars : ByteArray) (w : World) (h2 : 2 ≤ chars.size) (h8 : 8 < s.size) (hs : s.size < 4294967281) (hcs : chars.size < 4294967281) (hascii : ∀ (j : Nat) b, chars.data.toList[j]? = some b → b.toNat < 128) :
    Calls Try.prog 38 #[.string s, .string chars] w fun e w' => e = .returned (.int .i64 (Lib.indexAny s.data.toList chars.data.toList)) ∧ w' = ((w.alloc (.cells (Lib.setCells chars.data.toList) 61)).alloc (.cells (Lib.setCells chars.data.toList) 61)) := Any.strings_IndexAny_long Try.lays153 hv116 (by kernel_rfl) s chars w h2 h8 hs hcs hascii
open Go.RowKit Go.Lib in
theorem Try.strings_IndexAny (hv116 : ∀ w, (zeroValue 61).run Try.prog w = .ok (.agg (Array.replicate 256 (.bool false))) w) (s chars : ByteArray) (w : World) (hs : s.size < 4294967281) (hcs : chars.size < 4294967281) (has : ∀ (j : Nat) b, s.data.toList[j]? = some b → b.toNat < 128) (hac : ∀ (j : Nat) b, chars.data.toList[j]? = some b → b.toNat < 128) :
    Calls Try.prog 38 #[.string s, .string chars] w fun e w' => e = .returned (.int .i64 (Lib.indexAny s.data.toList chars.data.toList)) ∧ Below w.heap.size w w' := Any.strings_IndexAny Try.lays153 hv116 (by kernel_rfl) s chars w hs hcs has hac
def Try.lays150_ren : Go.Shelf.Ren := ⟨fun | 150 => 20 | 153 => 38 | 152 => 52 | 226 => 53 | 227 => 54 | 228 => 55 | 137 => 68 | 119 => 69 | 224 => 64 | 225 => 63 | 217 => 62 | 266 => 70 | n => n, fun | 9 => 9 | 4 => 4 | 3 => 3 | 5 => 5 | 21 => 21 | 117 => 62 | 116 => 61 | 0 => 0 | 46 => 35 | 124 => 76 | n => n, fun | n => n⟩
theorem Try.lays150 : Go.Proofs.Lays.n150 Try.prog Try.lays150_ren := {
  mixed := by kernel_rfl
  f119 := Try.func69.trans (congrArg some (by kernel_rfl))
  f137 := Try.func68.trans (congrArg some (by kernel_rfl))
  f150 := Try.func20.trans (congrArg some (by kernel_rfl))
  f152 := Try.func52.trans (congrArg some (by kernel_rfl))
  f153 := Try.func38.trans (congrArg some (by kernel_rfl))
  f217 := Try.func62.trans (congrArg some (by kernel_rfl))
  f224 := Try.func64.trans (congrArg some (by kernel_rfl))
  f225 := Try.func63.trans (congrArg some (by kernel_rfl))
  f226 := Try.func53.trans (congrArg some (by kernel_rfl))
  f227 := Try.func54.trans (congrArg some (by kernel_rfl))
  f228 := Try.func55.trans (congrArg some (by kernel_rfl))
  f266 := Try.func70.trans (congrArg some (by kernel_rfl))
  t0 := Try.underlying0
  a0 := Try.isAgg0
  z0 := Try.sizeOf0
  v0 := Try.zeroValue0
  t3 := Try.underlying3
  a3 := Try.isAgg3
  z3 := Try.sizeOf3
  v3 := Try.zeroValue3
  t4 := Try.underlying4
  a4 := Try.isAgg4
  z4 := Try.sizeOf4
  v4 := Try.zeroValue4
  t5 := Try.underlying5
  a5 := Try.isAgg5
  z5 := Try.sizeOf5
  v5 := Try.zeroValue5
  t9 := Try.underlying9
  a9 := Try.isAgg9
  z9 := Try.sizeOf9
  v9 := Try.zeroValue9
  t21 := Try.underlying21
  a21 := Try.isAgg21
  z21 := Try.sizeOf21
  v21 := Try.zeroValue21
  t46 := Try.underlying35
  a46 := Try.isAgg35
  z46 := Try.sizeOf35
  v46 := Try.zeroValue35
  t116 := Try.underlying61
  a116 := Try.isAgg61
  z116 := Try.sizeOf61
  t117 := Try.underlying62
  a117 := Try.isAgg62
  z117 := Try.sizeOf62
  v117 := Try.zeroValue62
  t124 := Try.underlying76
  a124 := Try.isAgg76
  z124 := Try.sizeOf76
  v124 := Try.zeroValue76 }
open Go.RowKit Go.Lib in
theorem Try.strings_ContainsAny (hv116 : ∀ w, (zeroValue 61).run Try.prog w = .ok (.agg (Array.replicate 256 (.bool false))) w) (s chars : ByteArray) (w : World) (hs : s.size < 4294967281) (hcs : chars.size < 4294967281) (has : ∀ (j : Nat) b, s.data.toList[j]? = some b → b.toNat < 128) (hac : ∀ (j : Nat) b, chars.data.toList[j]? = some b → b.toNat < 128) :
    Calls Try.prog 20 #[.string s, .string chars] w fun e w' => e = .returned (.bool (Lib.containsAny s.data.toList chars.data.toList)) ∧ Below w.heap.size w w' := Any.strings_ContainsAny Try.lays150 hv116 (by kernel_rfl) s chars w hs hcs has hac
def Try.lays105_ren : Go.Shelf.Ren := ⟨fun | 105 => 19 | 212 => 33 | 99 => 26 | 165 => 34 | 166 => 35 | 170 => 36 | 169 => 37 | 263 => 48 | 264 => 49 | 206 => 45 | 240 => 50 | 241 => 51 | 276 => 66 | 277 => 67 | n => n, fun | 9 => 9 | 3 => 3 | 4 => 4 | 20 => 20 | 0 => 0 | 46 => 35 | 109 => 36 | 5 => 5 | 72 => 41 | 76 => 45 | 51 => 51 | 146 => 52 | 53 => 54 | 148 => 55 | 70 => 38 | 37 => 39 | 75 => 44 | 127 => 57 | 164 => 72 | 80 => 48 | n => n, fun | n => n⟩
theorem Try.lays105 : Go.Proofs.Lays.n105 Try.prog Try.lays105_ren := {
  mixed := by kernel_rfl
  f99 := Try.func26.trans (congrArg some (by kernel_rfl))
  f105 := Try.func19.trans (congrArg some (by kernel_rfl))
  f165 := Try.func34.trans (congrArg some (by kernel_rfl))
  f166 := Try.func35.trans (congrArg some (by kernel_rfl))
  f169 := Try.func37.trans (congrArg some (by kernel_rfl))
  f170 := Try.func36.trans (congrArg some (by kernel_rfl))
  f206 := Try.func45.trans (congrArg some (by kernel_rfl))
  f212 := Try.func33.trans (congrArg some (by kernel_rfl))
  f240 := Try.func50.trans (congrArg some (by kernel_rfl))
  f241 := Try.func51.trans (congrArg some (by kernel_rfl))
  f263 := Try.func48.trans (congrArg some (by kernel_rfl))
  f264 := Try.func49.trans (congrArg some (by kernel_rfl))
  f276 := Try.func66.trans (congrArg some (by kernel_rfl))
  f277 := Try.func67.trans (congrArg some (by kernel_rfl))
  t0 := Try.underlying0
  a0 := Try.isAgg0
  z0 := Try.sizeOf0
  v0 := Try.zeroValue0
  t3 := Try.underlying3
  a3 := Try.isAgg3
  z3 := Try.sizeOf3
  v3 := Try.zeroValue3
  t4 := Try.underlying4
  a4 := Try.isAgg4
  z4 := Try.sizeOf4
  v4 := Try.zeroValue4
  t5 := Try.underlying5
  a5 := Try.isAgg5
  z5 := Try.sizeOf5
  v5 := Try.zeroValue5
  t9 := Try.underlying9
  a9 := Try.isAgg9
  z9 := Try.sizeOf9
  v9 := Try.zeroValue9
  t20 := Try.underlying20
  a20 := Try.isAgg20
  z20 := Try.sizeOf20
  v20 := Try.zeroValue20
  t37 := Try.underlying39
  a37 := Try.isAgg39
  z37 := Try.sizeOf39
  v37 := Try.zeroValue39
  t46 := Try.underlying35
  a46 := Try.isAgg35
  z46 := Try.sizeOf35
  v46 := Try.zeroValue35
  t51 := Try.underlying51
  a51 := Try.isAgg51
  z51 := Try.sizeOf51
  v51 := Try.zeroValue51
  t53 := Try.underlying54
  a53 := Try.isAgg54
  z53 := Try.sizeOf54
  v53 := Try.zeroValue54
  t70 := Try.underlying38
  a70 := Try.isAgg38
  z70 := Try.sizeOf38
  v70 := Try.zeroValue38
  t72 := Try.underlying41
  a72 := Try.isAgg41
  z72 := Try.sizeOf41
  v72 := Try.zeroValue41
  t75 := Try.underlying44
  a75 := Try.isAgg44
  z75 := Try.sizeOf44
  v75 := Try.zeroValue44
  t76 := Try.underlying45
  a76 := Try.isAgg45
  z76 := Try.sizeOf45
  v76 := Try.zeroValue45
  t109 := Try.underlying36
  a109 := Try.isAgg36
  z109 := Try.sizeOf36
  v109 := Try.zeroValue36
  t127 := Try.underlying57
  a127 := Try.isAgg57
  z127 := Try.sizeOf57
  v127 := Try.zeroValue57
  t146 := Try.underlying52
  a146 := Try.isAgg52
  z146 := Try.sizeOf52
  v146 := Try.zeroValue52
  t148 := Try.underlying55
  a148 := Try.isAgg55
  z148 := Try.sizeOf55
  v148 := Try.zeroValue55
  t164 := Try.underlying72
  a164 := Try.isAgg72
  z164 := Try.sizeOf72
  v164 := Try.zeroValue72 }
theorem Try.Builder_Extra_105 : Builder.Extra Try.prog Try.lays105_ren := {
  sizeBuilder := by kernel_rfl
  liesBuilder := by kernel_rfl
  t5 := Try.underlying5
  a5 := Try.isAgg5
  z5 := Try.sizeOf5
  v5 := Try.zeroValue5
  infoByte := by kernel_rfl
  cellsByte := by kernel_rfl
  sizeByte := by kernel_rfl
  neB5 := by decide }
open Go.RowKit Go.Lib in
theorem Try.strings_Repeat (s : ByteArray) (c : Nat) (w : World) (hc : c ≤ 9223372036854775807) (hlen : s.size * c ≤ 140737488355328) :
    Calls Try.prog 19 #[.string s, .int .i64 c] w fun e w' => e = .returned (.string ⟨(Lib.repeatL s.data.toList c).toArray⟩) ∧ Below w.heap.size w w' := Any.strings_Repeat Try.lays105 Try.Builder_Extra_105 s c w hc hlen
def Try.laysPa28_ren : Go.Shelf.Ren := ⟨fun | 28 => 32 | n => n, fun | 9 => 9 | 4 => 4 | 3 => 3 | 5 => 5 | n => n, fun | n => n⟩
theorem Try.laysPa28 : Go.Proofs.Lays.p28 Try.prog Try.laysPa28_ren := {
  mixed := by kernel_rfl
  f28 := Try.func32.trans (congrArg some (by kernel_rfl))
  t3 := Try.underlying3
  a3 := Try.isAgg3
  z3 := Try.sizeOf3
  v3 := Try.zeroValue3
  t4 := Try.underlying4
  a4 := Try.isAgg4
  z4 := Try.sizeOf4
  v4 := Try.zeroValue4
  t5 := Try.underlying5
  a5 := Try.isAgg5
  z5 := Try.sizeOf5
  v5 := Try.zeroValue5
  t9 := Try.underlying9
  a9 := Try.isAgg9
  z9 := Try.sizeOf9
  v9 := Try.zeroValue9 }
open Go.RowKit Go.Lib in
theorem Try.path_IsAbs (s : ByteArray) (w : World) :
    Calls Try.prog 32 #[.string s] w fun e w' => e = .returned (.bool (Pa.isAbs s.data.toList)) ∧ w' = w := Any.path_IsAbs Try.laysPa28 s w
def Try.laysPa29_ren : Go.Shelf.Ren := ⟨fun | 29 => 28 | 45 => 41 | n => n, fun | 9 => 9 | 5 => 5 | 3 => 3 | 4 => 4 | n => n, fun | n => n⟩
theorem Try.laysPa29 : Go.Proofs.Lays.p29 Try.prog Try.laysPa29_ren := {
  mixed := by kernel_rfl
  f29 := Try.func28.trans (congrArg some (by kernel_rfl))
  f45 := Try.func41.trans (congrArg some (by kernel_rfl))
  t3 := Try.underlying3
  a3 := Try.isAgg3
  z3 := Try.sizeOf3
  v3 := Try.zeroValue3
  t4 := Try.underlying4
  a4 := Try.isAgg4
  z4 := Try.sizeOf4
  v4 := Try.zeroValue4
  t5 := Try.underlying5
  a5 := Try.isAgg5
  z5 := Try.sizeOf5
  v5 := Try.zeroValue5
  t9 := Try.underlying9
  a9 := Try.isAgg9
  z9 := Try.sizeOf9
  v9 := Try.zeroValue9 }
open Go.RowKit Go.Lib in
theorem Try.path_Split (s : ByteArray) (w : World) (hs : s.size ≤ 9223372036854775807) :
    Calls Try.prog 28 #[.string s] w fun e w' => e = .returned (.tuple #[.string ⟨(Pa.split s.data.toList).1.toArray⟩, .string ⟨(Pa.split s.data.toList).2.toArray⟩]) ∧ ∃ n, w' = w.drewN n := Any.path_Split Try.laysPa29 s w hs
def Try.laysPa26_ren : Go.Shelf.Ren := ⟨fun | 26 => 39 | n => n, fun | 9 => 9 | 3 => 3 | 4 => 4 | 5 => 5 | n => n, fun | n => n⟩
theorem Try.laysPa26 : Go.Proofs.Lays.p26 Try.prog Try.laysPa26_ren := {
  mixed := by kernel_rfl
  f26 := Try.func39.trans (congrArg some (by kernel_rfl))
  t3 := Try.underlying3
  a3 := Try.isAgg3
  z3 := Try.sizeOf3
  v3 := Try.zeroValue3
  t4 := Try.underlying4
  a4 := Try.isAgg4
  z4 := Try.sizeOf4
  v4 := Try.zeroValue4
  t5 := Try.underlying5
  a5 := Try.isAgg5
  z5 := Try.sizeOf5
  v5 := Try.zeroValue5
  t9 := Try.underlying9
  a9 := Try.isAgg9
  z9 := Try.sizeOf9
  v9 := Try.zeroValue9 }
open Go.RowKit Go.Lib in
theorem Try.path_Ext (s : ByteArray) (w : World) (hs : s.size ≤ 9223372036854775807) :
    Calls Try.prog 39 #[.string s] w fun e w' => e = .returned (.string ⟨(Pa.ext s.data.toList).toArray⟩) ∧ w' = w := Any.path_Ext Try.laysPa26 s w hs
def Try.laysPa25_ren : Go.Shelf.Ren := ⟨fun | 25 => 31 | 45 => 41 | n => n, fun | 9 => 9 | 4 => 4 | 3 => 3 | 5 => 5 | n => n, fun | n => n⟩
theorem Try.laysPa25 : Go.Proofs.Lays.p25 Try.prog Try.laysPa25_ren := {
  mixed := by kernel_rfl
  f25 := Try.func31.trans (congrArg some (by kernel_rfl))
  f45 := Try.func41.trans (congrArg some (by kernel_rfl))
  t3 := Try.underlying3
  a3 := Try.isAgg3
  z3 := Try.sizeOf3
  v3 := Try.zeroValue3
  t4 := Try.underlying4
  a4 := Try.isAgg4
  z4 := Try.sizeOf4
  v4 := Try.zeroValue4
  t5 := Try.underlying5
  a5 := Try.isAgg5
  z5 := Try.sizeOf5
  v5 := Try.zeroValue5
  t9 := Try.underlying9
  a9 := Try.isAgg9
  z9 := Try.sizeOf9
  v9 := Try.zeroValue9 }
open Go.RowKit Go.Lib in
theorem Try.path_Base (s : ByteArray) (w : World) (hs : s.size ≤ 9223372036854775807) :
    Calls Try.prog 31 #[.string s] w fun e w' => e = .returned (.string ⟨(Pa.base s.data.toList).toArray⟩) ∧ w' = w := Any.path_Base Try.laysPa25 s w hs
def Try.laysPah30_ren : Go.Shelf.Ren := ⟨fun | 30 => 40 | 46 => 56 | 47 => 57 | 48 => 58 | n => n, fun | 9 => 9 | 4 => 4 | 5 => 5 | 3 => 3 | 42 => 66 | 0 => 0 | 48 => 77 | 30 => 39 | n => n, fun | n => n⟩
theorem Try.laysPah30 : Go.Proofs.Lays.ph30 Try.prog Try.laysPah30_ren := {
  mixed := by kernel_rfl
  f30 := Try.func40.trans (congrArg some (by kernel_rfl))
  f46 := Try.func56.trans (congrArg some (by kernel_rfl))
  f47 := Try.func57.trans (congrArg some (by kernel_rfl))
  f48 := Try.func58.trans (congrArg some (by kernel_rfl))
  t0 := Try.underlying0
  a0 := Try.isAgg0
  z0 := Try.sizeOf0
  v0 := Try.zeroValue0
  t3 := Try.underlying3
  a3 := Try.isAgg3
  z3 := Try.sizeOf3
  v3 := Try.zeroValue3
  t4 := Try.underlying4
  a4 := Try.isAgg4
  z4 := Try.sizeOf4
  v4 := Try.zeroValue4
  t5 := Try.underlying5
  a5 := Try.isAgg5
  z5 := Try.sizeOf5
  v5 := Try.zeroValue5
  t9 := Try.underlying9
  a9 := Try.isAgg9
  z9 := Try.sizeOf9
  v9 := Try.zeroValue9
  t30 := Try.underlying39
  a30 := Try.isAgg39
  z30 := Try.sizeOf39
  v30 := Try.zeroValue39
  t42 := Try.underlying66
  a42 := Try.isAgg66
  z42 := Try.sizeOf66
  v42 := Try.zeroValue66
  t48 := Try.underlying77
  a48 := Try.isAgg77
  z48 := Try.sizeOf77
  v48 := Try.zeroValue77
  info5 := by kernel_rfl }
open Go.RowKit Go.Lib in
theorem Try.path_Clean (s : ByteArray) (w : World) (hbig : s.size ≤ 281474976710656) :
    Calls Try.prog 40 #[.string s] w fun e w' => e = .returned (.string ⟨(Pa.clean s.data.toList).toArray⟩) ∧ Below w.heap.size w w' := Any.path_Clean Try.laysPah30 s w hbig
def Try.laysPah27_ren : Go.Shelf.Ren := ⟨fun | 27 => 43 | 29 => 28 | 30 => 40 | 45 => 41 | 46 => 56 | 47 => 57 | 48 => 58 | n => n, fun | 9 => 9 | 24 => 22 | 5 => 5 | 3 => 3 | 4 => 4 | 42 => 66 | 0 => 0 | 48 => 77 | 30 => 39 | n => n, fun | n => n⟩
theorem Try.laysPah27 : Go.Proofs.Lays.ph27 Try.prog Try.laysPah27_ren := {
  mixed := by kernel_rfl
  f27 := Try.func43.trans (congrArg some (by kernel_rfl))
  f29 := Try.func28.trans (congrArg some (by kernel_rfl))
  f30 := Try.func40.trans (congrArg some (by kernel_rfl))
  f45 := Try.func41.trans (congrArg some (by kernel_rfl))
  f46 := Try.func56.trans (congrArg some (by kernel_rfl))
  f47 := Try.func57.trans (congrArg some (by kernel_rfl))
  f48 := Try.func58.trans (congrArg some (by kernel_rfl))
  t0 := Try.underlying0
  a0 := Try.isAgg0
  z0 := Try.sizeOf0
  v0 := Try.zeroValue0
  t3 := Try.underlying3
  a3 := Try.isAgg3
  z3 := Try.sizeOf3
  v3 := Try.zeroValue3
  t4 := Try.underlying4
  a4 := Try.isAgg4
  z4 := Try.sizeOf4
  v4 := Try.zeroValue4
  t5 := Try.underlying5
  a5 := Try.isAgg5
  z5 := Try.sizeOf5
  v5 := Try.zeroValue5
  t9 := Try.underlying9
  a9 := Try.isAgg9
  z9 := Try.sizeOf9
  v9 := Try.zeroValue9
  t24 := Try.underlying22
  a24 := Try.isAgg22
  z24 := Try.sizeOf22
  v24 := Try.zeroValue22
  t30 := Try.underlying39
  a30 := Try.isAgg39
  z30 := Try.sizeOf39
  v30 := Try.zeroValue39
  t42 := Try.underlying66
  a42 := Try.isAgg66
  z42 := Try.sizeOf66
  v42 := Try.zeroValue66
  t48 := Try.underlying77
  a48 := Try.isAgg77
  z48 := Try.sizeOf77
  v48 := Try.zeroValue77
  info5 := by kernel_rfl }
open Go.RowKit Go.Lib in
theorem Try.path_Dir (s : ByteArray) (w : World) (hbig : s.size ≤ 281474976710656) :
    Calls Try.prog 43 #[.string s] w fun e w' => e = .returned (.string ⟨(Pa.dir s.data.toList).toArray⟩) ∧ Below w.heap.size w w' := Any.path_Dir Try.laysPah27 s w hbig
def Try.laysPah31_ren : Go.Shelf.Ren := ⟨fun | 31 => 46 | 30 => 40 | 46 => 56 | 47 => 57 | 48 => 58 | n => n, fun | 26 => 34 | 9 => 9 | 3 => 3 | 0 => 0 | 4 => 4 | 30 => 39 | 5 => 5 | 42 => 66 | 48 => 77 | n => n, fun | n => n⟩
theorem Try.laysPah31 : Go.Proofs.Lays.ph31 Try.prog Try.laysPah31_ren := {
  mixed := by kernel_rfl
  f30 := Try.func40.trans (congrArg some (by kernel_rfl))
  f31 := Try.func46.trans (congrArg some (by kernel_rfl))
  f46 := Try.func56.trans (congrArg some (by kernel_rfl))
  f47 := Try.func57.trans (congrArg some (by kernel_rfl))
  f48 := Try.func58.trans (congrArg some (by kernel_rfl))
  t0 := Try.underlying0
  a0 := Try.isAgg0
  z0 := Try.sizeOf0
  v0 := Try.zeroValue0
  t3 := Try.underlying3
  a3 := Try.isAgg3
  z3 := Try.sizeOf3
  v3 := Try.zeroValue3
  t4 := Try.underlying4
  a4 := Try.isAgg4
  z4 := Try.sizeOf4
  v4 := Try.zeroValue4
  t5 := Try.underlying5
  a5 := Try.isAgg5
  z5 := Try.sizeOf5
  v5 := Try.zeroValue5
  t9 := Try.underlying9
  a9 := Try.isAgg9
  z9 := Try.sizeOf9
  v9 := Try.zeroValue9
  t26 := Try.underlying34
  a26 := Try.isAgg34
  z26 := Try.sizeOf34
  v26 := Try.zeroValue34
  t30 := Try.underlying39
  a30 := Try.isAgg39
  z30 := Try.sizeOf39
  v30 := Try.zeroValue39
  t42 := Try.underlying66
  a42 := Try.isAgg66
  z42 := Try.sizeOf66
  v42 := Try.zeroValue66
  t48 := Try.underlying77
  a48 := Try.isAgg77
  z48 := Try.sizeOf77
  v48 := Try.zeroValue77
  info5 := by kernel_rfl }
open Go.RowKit Go.Lib in
theorem Try.path_Join_nil (w : World) :
    Calls Try.prog 46 #[.slice none 0 0] w fun e w' => e = .returned (.string ⟨#[]⟩) ∧ w' = w := Any.path_Join_nil Try.laysPah31 w
open Go.RowKit Go.Lib in
theorem Try.path_Join_rules (bk o c : Nat) (xs : List ByteArray) (w : World) (hcells : ∀ (j : Nat) x, xs[j]? = some x → w.cell? ⟨bk, o + j, none⟩ = some (.string x)) (hbk : bk < w.heap.size) (hlen : Pa.lens (xs.map (·.data.toList)) + xs.length ≤ 281474976710656) :
    Calls Try.prog 46 #[.slice (some ⟨bk, o, none⟩) xs.length c] w fun e w' => e = .returned (.string ⟨(Pa.join (xs.map (·.data.toList))).toArray⟩) ∧ Below w.heap.size w w' := Any.path_Join_rules Try.laysPah31 bk o c xs w hcells hbk hlen
end Go.Proofs
