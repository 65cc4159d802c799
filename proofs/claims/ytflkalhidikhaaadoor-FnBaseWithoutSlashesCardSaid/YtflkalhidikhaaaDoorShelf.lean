/-
  The library's contracts that are proved once, laid at this seat's program by the kit's own commands (lay-shelf, lay-plain), remarks struck. No walk.
-/
import Derived.Shelf.Strings.Builder1
import Derived.Shelf.Strings.Builder2
import Derived.Shelf.Strings.Trim
import Derived.Shelf.Small.Utf8
import Derived.Shelf.Small.Strs
import Derived.Shelf.Strings.BuilderF
import Derived.Shelf.Strings.Search1
import Derived.Shelf.Strings.LastIndex
import Derived.Shelf.Strings.Prefix
import Derived.Shelf.Strings.Runes
import Derived.Shelf.Strings.AsciiSet
import Derived.Shelf.Bits.Mul64
import Derived.Shelf.Strings.Repeat
import Derived.Shelf.Unicode.DecodeSlow
import Derived.Ground.PaProg
import Derived.Shelf.Path.Small
import Derived.Test.YtflkalhidikhaaaDoorProg
namespace Go.Proofs
open Go.Shelf
def Tryd.lays160_ren : Go.Shelf.Ren := ⟨fun | 160 => 6 | 232 => 15 | 231 => 14 | 227 => 16 | 234 => 18 | 233 => 17 | 236 => 20 | 235 => 19 | 228 => 27 | 271 => 30 | 151 => 29 | 197 => 28 | 120 => 35 | 152 => 34 | 260 => 33 | 137 => 36 | 119 => 37 | 224 => 38 | 225 => 39 | 217 => 40 | 266 => 41 | n => n, fun | 9 => 9 | 4 => 4 | 3 => 3 | 5 => 5 | 117 => 44 | 116 => 43 | 0 => 0 | 124 => 47 | 21 => 21 | 105 => 57 | 46 => 26 | 119 => 64 | 139 => 67 | 138 => 66 | n => n, fun | 3 => 1 | 4 => 2 | n => n⟩
theorem Tryd.lays160 : Go.Proofs.Lays.n160 Tryd.prog Tryd.lays160_ren := {
  mixed := by kernel_rfl
  f119 := Tryd.func37.trans (congrArg some (by kernel_rfl))
  f120 := Tryd.func35.trans (congrArg some (by kernel_rfl))
  f137 := Tryd.func36.trans (congrArg some (by kernel_rfl))
  f151 := Tryd.func29.trans (congrArg some (by kernel_rfl))
  f152 := Tryd.func34.trans (congrArg some (by kernel_rfl))
  f160 := Tryd.func6.trans (congrArg some (by kernel_rfl))
  f197 := Tryd.func28.trans (congrArg some (by kernel_rfl))
  f217 := Tryd.func40.trans (congrArg some (by kernel_rfl))
  f224 := Tryd.func38.trans (congrArg some (by kernel_rfl))
  f225 := Tryd.func39.trans (congrArg some (by kernel_rfl))
  f227 := Tryd.func16.trans (congrArg some (by kernel_rfl))
  f228 := Tryd.func27.trans (congrArg some (by kernel_rfl))
  f231 := Tryd.func14.trans (congrArg some (by kernel_rfl))
  f232 := Tryd.func15.trans (congrArg some (by kernel_rfl))
  f233 := Tryd.func17.trans (congrArg some (by kernel_rfl))
  f234 := Tryd.func18.trans (congrArg some (by kernel_rfl))
  f235 := Tryd.func19.trans (congrArg some (by kernel_rfl))
  f236 := Tryd.func20.trans (congrArg some (by kernel_rfl))
  f260 := Tryd.func33.trans (congrArg some (by kernel_rfl))
  f266 := Tryd.func41.trans (congrArg some (by kernel_rfl))
  f271 := Tryd.func30.trans (congrArg some (by kernel_rfl))
  t0 := Tryd.underlying0
  a0 := Tryd.isAgg0
  z0 := Tryd.sizeOf0
  v0 := Tryd.zeroValue0
  t3 := Tryd.underlying3
  a3 := Tryd.isAgg3
  z3 := Tryd.sizeOf3
  v3 := Tryd.zeroValue3
  t4 := Tryd.underlying4
  a4 := Tryd.isAgg4
  z4 := Tryd.sizeOf4
  v4 := Tryd.zeroValue4
  t5 := Tryd.underlying5
  a5 := Tryd.isAgg5
  z5 := Tryd.sizeOf5
  v5 := Tryd.zeroValue5
  t9 := Tryd.underlying9
  a9 := Tryd.isAgg9
  z9 := Tryd.sizeOf9
  v9 := Tryd.zeroValue9
  t21 := Tryd.underlying21
  a21 := Tryd.isAgg21
  z21 := Tryd.sizeOf21
  v21 := Tryd.zeroValue21
  t46 := Tryd.underlying26
  a46 := Tryd.isAgg26
  z46 := Tryd.sizeOf26
  v46 := Tryd.zeroValue26
  t105 := Tryd.underlying57
  a105 := Tryd.isAgg57
  z105 := Tryd.sizeOf57
  v105 := Tryd.zeroValue57
  t116 := Tryd.underlying43
  a116 := Tryd.isAgg43
  z116 := Tryd.sizeOf43
  t117 := Tryd.underlying44
  a117 := Tryd.isAgg44
  z117 := Tryd.sizeOf44
  v117 := Tryd.zeroValue44
  t119 := Tryd.underlying64
  a119 := Tryd.isAgg64
  z119 := Tryd.sizeOf64
  t124 := Tryd.underlying47
  a124 := Tryd.isAgg47
  z124 := Tryd.sizeOf47
  v124 := Tryd.zeroValue47
  t138 := Tryd.underlying66
  a138 := Tryd.isAgg66
  z138 := Tryd.sizeOf66
  v138 := Tryd.zeroValue66
  t139 := Tryd.underlying67
  a139 := Tryd.isAgg67
  z139 := Tryd.sizeOf67
  v139 := Tryd.zeroValue67
  g3 := by kernel_rfl
  g4 := by kernel_rfl }
open Go.RowKit in
theorem Tryd.strings_Trim_one (s : ByteArray) (c : UInt8) (hc : c.toNat < 128) (w : World) (hs : s.size ≤ 9223372036854775807) :
    Calls Tryd.prog 6 #[.string s, .string ⟨#[c]⟩] w fun e w' => e = .returned (.string ⟨(Lib.trimB s.data.toList c).toArray⟩) ∧ (w' = w ∨ w' = w.drew) := Any.strings_Trim_one Tryd.lays160 s c hc w hs
def Tryd.lays137_ren : Go.Shelf.Ren := ⟨fun | 137 => 36 | 217 => 40 | 266 => 41 | n => n, fun | 9 => 9 | 5 => 5 | 3 => 3 | n => n, fun | n => n⟩
theorem Tryd.lays137 : Go.Proofs.Lays.n137 Tryd.prog Tryd.lays137_ren := {
  mixed := by kernel_rfl
  f137 := Tryd.func36.trans (congrArg some (by kernel_rfl))
  f217 := Tryd.func40.trans (congrArg some (by kernel_rfl))
  f266 := Tryd.func41.trans (congrArg some (by kernel_rfl))
  t3 := Tryd.underlying3
  a3 := Tryd.isAgg3
  z3 := Tryd.sizeOf3
  v3 := Tryd.zeroValue3
  t5 := Tryd.underlying5
  a5 := Tryd.isAgg5
  z5 := Tryd.sizeOf5
  v5 := Tryd.zeroValue5
  t9 := Tryd.underlying9
  a9 := Tryd.isAgg9
  z9 := Tryd.sizeOf9
  v9 := Tryd.zeroValue9 }
open Go.RowKit in
theorem Tryd.strings_IndexByte (s : ByteArray) (c : Int) (w : World) :
    Calls Tryd.prog 36 #[.string s, .int .u8 c] w fun e w' => e = .returned (.int .i64 (Lib.indexByte s.data.toList c.toNat.toUInt8)) ∧ w' = w := Any.strings_IndexByte Tryd.lays137 s c w
def Tryd.lays99_ren : Go.Shelf.Ren := ⟨fun | 99 => 9 | 206 => 24 | n => n, fun | 9 => 9 | 4 => 4 | 3 => 3 | n => n, fun | n => n⟩
theorem Tryd.lays99 : Go.Proofs.Lays.n99 Tryd.prog Tryd.lays99_ren := {
  mixed := by kernel_rfl
  f99 := Tryd.func9.trans (congrArg some (by kernel_rfl))
  f206 := Tryd.func24.trans (congrArg some (by kernel_rfl))
  t3 := Tryd.underlying3
  a3 := Tryd.isAgg3
  z3 := Tryd.sizeOf3
  v3 := Tryd.zeroValue3
  t4 := Tryd.underlying4
  a4 := Tryd.isAgg4
  z4 := Tryd.sizeOf4
  v4 := Tryd.zeroValue4
  t9 := Tryd.underlying9
  a9 := Tryd.isAgg9
  z9 := Tryd.sizeOf9
  v9 := Tryd.zeroValue9 }
open Go.RowKit Go.Lib in
theorem Tryd.strings_HasPrefix (s p : ByteArray) (w : World) :
    Calls Tryd.prog 9 #[.string s, .string p] w fun e w' => e = .returned (.bool (Lib.hasPrefix s.data.toList p.data.toList)) ∧ w' = w := Any.strings_HasPrefix Tryd.lays99 s p w
def Tryd.lays152_ren : Go.Shelf.Ren := ⟨fun | 152 => 34 | 137 => 36 | 119 => 37 | 224 => 38 | 225 => 39 | 217 => 40 | 266 => 41 | n => n, fun | 9 => 9 | 21 => 21 | 3 => 3 | 4 => 4 | 5 => 5 | 0 => 0 | 46 => 26 | n => n, fun | n => n⟩
theorem Tryd.lays152 : Go.Proofs.Lays.n152 Tryd.prog Tryd.lays152_ren := {
  mixed := by kernel_rfl
  f119 := Tryd.func37.trans (congrArg some (by kernel_rfl))
  f137 := Tryd.func36.trans (congrArg some (by kernel_rfl))
  f152 := Tryd.func34.trans (congrArg some (by kernel_rfl))
  f217 := Tryd.func40.trans (congrArg some (by kernel_rfl))
  f224 := Tryd.func38.trans (congrArg some (by kernel_rfl))
  f225 := Tryd.func39.trans (congrArg some (by kernel_rfl))
  f266 := Tryd.func41.trans (congrArg some (by kernel_rfl))
  t0 := Tryd.underlying0
  a0 := Tryd.isAgg0
  z0 := Tryd.sizeOf0
  v0 := Tryd.zeroValue0
  t3 := Tryd.underlying3
  a3 := Tryd.isAgg3
  z3 := Tryd.sizeOf3
  v3 := Tryd.zeroValue3
  t4 := Tryd.underlying4
  a4 := Tryd.isAgg4
  z4 := Tryd.sizeOf4
  v4 := Tryd.zeroValue4
  t5 := Tryd.underlying5
  a5 := Tryd.isAgg5
  z5 := Tryd.sizeOf5
  v5 := Tryd.zeroValue5
  t9 := Tryd.underlying9
  a9 := Tryd.isAgg9
  z9 := Tryd.sizeOf9
  v9 := Tryd.zeroValue9
  t21 := Tryd.underlying21
  a21 := Tryd.isAgg21
  z21 := Tryd.sizeOf21
  v21 := Tryd.zeroValue21
  t46 := Tryd.underlying26
  a46 := Tryd.isAgg26
  z46 := Tryd.sizeOf26
  v46 := Tryd.zeroValue26 }
open Go.RowKit Go.Lib in
theorem Tryd.strings_IndexRune_ascii (s : ByteArray) (r : Int) (w : World) (h0 : 0 ≤ r) (h1 : r < 128) :
    Calls Tryd.prog 34 #[.string s, .int .i32 r] w fun e w' => e = .returned (.int .i64 (Lib.indexByte s.data.toList r.toNat.toUInt8)) ∧ w' = w := Any.strings_IndexRune_ascii Tryd.lays152 s r w h0 h1
def Tryd.lays227_ren : Go.Shelf.Ren := ⟨fun | 227 => 16 | n => n, fun | 9 => 9 | 116 => 43 | 4 => 4 | 0 => 0 | 3 => 3 | 5 => 5 | n => n, fun | n => n⟩
theorem Tryd.lays227 : Go.Proofs.Lays.n227 Tryd.prog Tryd.lays227_ren := {
  mixed := by kernel_rfl
  f227 := Tryd.func16.trans (congrArg some (by kernel_rfl))
  t0 := Tryd.underlying0
  a0 := Tryd.isAgg0
  z0 := Tryd.sizeOf0
  v0 := Tryd.zeroValue0
  t3 := Tryd.underlying3
  a3 := Tryd.isAgg3
  z3 := Tryd.sizeOf3
  v3 := Tryd.zeroValue3
  t4 := Tryd.underlying4
  a4 := Tryd.isAgg4
  z4 := Tryd.sizeOf4
  v4 := Tryd.zeroValue4
  t5 := Tryd.underlying5
  a5 := Tryd.isAgg5
  z5 := Tryd.sizeOf5
  v5 := Tryd.zeroValue5
  t9 := Tryd.underlying9
  a9 := Tryd.isAgg9
  z9 := Tryd.sizeOf9
  v9 := Tryd.zeroValue9
  t116 := Tryd.underlying43
  a116 := Tryd.isAgg43
  z116 := Tryd.sizeOf43 }
open Go.RowKit Go.Lib in
theorem Tryd.strings_makeASCIISet (hv116 : ∀ w, (zeroValue 43).run Tryd.prog w = .ok (.agg (Array.replicate 256 (.bool false))) w) (chars : ByteArray) (w : World) (hs : chars.size < 4294967281) (hascii : ∀ (j : Nat) b, chars.data.toList[j]? = some b → b.toNat < 128) :
    Calls Tryd.prog 16 #[.string chars] w fun e w' => e = .returned (.tuple #[.agg (Lib.setCells chars.data.toList), .bool true]) ∧ w' = w.alloc (.cells (Lib.setCells chars.data.toList) 43) := Any.strings_makeASCIISet Tryd.lays227 hv116 (by kernel_rfl) chars w hs hascii
def Tryd.lays228_ren : Go.Shelf.Ren := ⟨fun | 228 => 27 | n => n, fun | 124 => 47 | 5 => 5 | 4 => 4 | 0 => 0 | 116 => 43 | n => n, fun | n => n⟩
theorem Tryd.lays228 : Go.Proofs.Lays.n228 Tryd.prog Tryd.lays228_ren := {
  mixed := by kernel_rfl
  f228 := Tryd.func27.trans (congrArg some (by kernel_rfl))
  t0 := Tryd.underlying0
  a0 := Tryd.isAgg0
  z0 := Tryd.sizeOf0
  v0 := Tryd.zeroValue0
  t4 := Tryd.underlying4
  a4 := Tryd.isAgg4
  z4 := Tryd.sizeOf4
  v4 := Tryd.zeroValue4
  t5 := Tryd.underlying5
  a5 := Tryd.isAgg5
  z5 := Tryd.sizeOf5
  v5 := Tryd.zeroValue5
  t116 := Tryd.underlying43
  a116 := Tryd.isAgg43
  z116 := Tryd.sizeOf43
  t124 := Tryd.underlying47
  a124 := Tryd.isAgg47
  z124 := Tryd.sizeOf47
  v124 := Tryd.zeroValue47 }
open Go.RowKit Go.Lib in
theorem Tryd.asciiSet_contains (b : Nat) (x : UInt8) (v : Bool) (w : World) (hc : w.cell? ⟨b, x.toNat, none⟩ = some (.bool v)) :
    Calls Tryd.prog 27 #[.pointer (some ⟨b, 0, none⟩), .int .u8 x.toNat] w fun e w' => e = .returned (.bool v) ∧ w' = w := Any.asciiSet_contains Tryd.lays228 b x v w hc
def Tryd.lays105_ren : Go.Shelf.Ren := ⟨fun | 105 => 5 | 212 => 8 | 99 => 9 | 165 => 10 | 166 => 11 | 170 => 12 | 169 => 13 | 263 => 22 | 264 => 23 | 206 => 24 | 240 => 25 | 241 => 26 | 276 => 31 | 277 => 32 | n => n, fun | 9 => 9 | 3 => 3 | 4 => 4 | 20 => 20 | 0 => 0 | 46 => 26 | 109 => 27 | 5 => 5 | 72 => 33 | 76 => 37 | 51 => 49 | 146 => 50 | 53 => 52 | 148 => 53 | 70 => 30 | 37 => 31 | 75 => 36 | 127 => 55 | 164 => 60 | 80 => 40 | n => n, fun | n => n⟩
theorem Tryd.lays105 : Go.Proofs.Lays.n105 Tryd.prog Tryd.lays105_ren := {
  mixed := by kernel_rfl
  f99 := Tryd.func9.trans (congrArg some (by kernel_rfl))
  f105 := Tryd.func5.trans (congrArg some (by kernel_rfl))
  f165 := Tryd.func10.trans (congrArg some (by kernel_rfl))
  f166 := Tryd.func11.trans (congrArg some (by kernel_rfl))
  f169 := Tryd.func13.trans (congrArg some (by kernel_rfl))
  f170 := Tryd.func12.trans (congrArg some (by kernel_rfl))
  f206 := Tryd.func24.trans (congrArg some (by kernel_rfl))
  f212 := Tryd.func8.trans (congrArg some (by kernel_rfl))
  f240 := Tryd.func25.trans (congrArg some (by kernel_rfl))
  f241 := Tryd.func26.trans (congrArg some (by kernel_rfl))
  f263 := Tryd.func22.trans (congrArg some (by kernel_rfl))
  f264 := Tryd.func23.trans (congrArg some (by kernel_rfl))
  f276 := Tryd.func31.trans (congrArg some (by kernel_rfl))
  f277 := Tryd.func32.trans (congrArg some (by kernel_rfl))
  t0 := Tryd.underlying0
  a0 := Tryd.isAgg0
  z0 := Tryd.sizeOf0
  v0 := Tryd.zeroValue0
  t3 := Tryd.underlying3
  a3 := Tryd.isAgg3
  z3 := Tryd.sizeOf3
  v3 := Tryd.zeroValue3
  t4 := Tryd.underlying4
  a4 := Tryd.isAgg4
  z4 := Tryd.sizeOf4
  v4 := Tryd.zeroValue4
  t5 := Tryd.underlying5
  a5 := Tryd.isAgg5
  z5 := Tryd.sizeOf5
  v5 := Tryd.zeroValue5
  t9 := Tryd.underlying9
  a9 := Tryd.isAgg9
  z9 := Tryd.sizeOf9
  v9 := Tryd.zeroValue9
  t20 := Tryd.underlying20
  a20 := Tryd.isAgg20
  z20 := Tryd.sizeOf20
  v20 := Tryd.zeroValue20
  t37 := Tryd.underlying31
  a37 := Tryd.isAgg31
  z37 := Tryd.sizeOf31
  v37 := Tryd.zeroValue31
  t46 := Tryd.underlying26
  a46 := Tryd.isAgg26
  z46 := Tryd.sizeOf26
  v46 := Tryd.zeroValue26
  t51 := Tryd.underlying49
  a51 := Tryd.isAgg49
  z51 := Tryd.sizeOf49
  v51 := Tryd.zeroValue49
  t53 := Tryd.underlying52
  a53 := Tryd.isAgg52
  z53 := Tryd.sizeOf52
  v53 := Tryd.zeroValue52
  t70 := Tryd.underlying30
  a70 := Tryd.isAgg30
  z70 := Tryd.sizeOf30
  v70 := Tryd.zeroValue30
  t72 := Tryd.underlying33
  a72 := Tryd.isAgg33
  z72 := Tryd.sizeOf33
  v72 := Tryd.zeroValue33
  t75 := Tryd.underlying36
  a75 := Tryd.isAgg36
  z75 := Tryd.sizeOf36
  v75 := Tryd.zeroValue36
  t76 := Tryd.underlying37
  a76 := Tryd.isAgg37
  z76 := Tryd.sizeOf37
  v76 := Tryd.zeroValue37
  t109 := Tryd.underlying27
  a109 := Tryd.isAgg27
  z109 := Tryd.sizeOf27
  v109 := Tryd.zeroValue27
  t127 := Tryd.underlying55
  a127 := Tryd.isAgg55
  z127 := Tryd.sizeOf55
  v127 := Tryd.zeroValue55
  t146 := Tryd.underlying50
  a146 := Tryd.isAgg50
  z146 := Tryd.sizeOf50
  v146 := Tryd.zeroValue50
  t148 := Tryd.underlying53
  a148 := Tryd.isAgg53
  z148 := Tryd.sizeOf53
  v148 := Tryd.zeroValue53
  t164 := Tryd.underlying60
  a164 := Tryd.isAgg60
  z164 := Tryd.sizeOf60
  v164 := Tryd.zeroValue60 }
theorem Tryd.Builder_Extra_105 : Builder.Extra Tryd.prog Tryd.lays105_ren := {
  sizeBuilder := by kernel_rfl
  liesBuilder := by kernel_rfl
  t5 := Tryd.underlying5
  a5 := Tryd.isAgg5
  z5 := Tryd.sizeOf5
  v5 := Tryd.zeroValue5
  infoByte := by kernel_rfl
  cellsByte := by kernel_rfl
  sizeByte := by kernel_rfl
  neB5 := by decide }
open Go.RowKit Go.Lib in
theorem Tryd.strings_Repeat (s : ByteArray) (c : Nat) (w : World) (hc : c ≤ 9223372036854775807) (hlen : s.size * c ≤ 140737488355328) :
    Calls Tryd.prog 5 #[.string s, .int .i64 c] w fun e w' => e = .returned (.string ⟨(Lib.repeatL s.data.toList c).toArray⟩) ∧ Below w.heap.size w w' := Any.strings_Repeat Tryd.lays105 Tryd.Builder_Extra_105 s c w hc hlen
def Tryd.laysPa25_ren : Go.Shelf.Ren := ⟨fun | 25 => 7 | 45 => 21 | n => n, fun | 9 => 9 | 4 => 4 | 3 => 3 | 5 => 5 | n => n, fun | n => n⟩
theorem Tryd.laysPa25 : Go.Proofs.Lays.p25 Tryd.prog Tryd.laysPa25_ren := {
  mixed := by kernel_rfl
  f25 := Tryd.func7.trans (congrArg some (by kernel_rfl))
  f45 := Tryd.func21.trans (congrArg some (by kernel_rfl))
  t3 := Tryd.underlying3
  a3 := Tryd.isAgg3
  z3 := Tryd.sizeOf3
  v3 := Tryd.zeroValue3
  t4 := Tryd.underlying4
  a4 := Tryd.isAgg4
  z4 := Tryd.sizeOf4
  v4 := Tryd.zeroValue4
  t5 := Tryd.underlying5
  a5 := Tryd.isAgg5
  z5 := Tryd.sizeOf5
  v5 := Tryd.zeroValue5
  t9 := Tryd.underlying9
  a9 := Tryd.isAgg9
  z9 := Tryd.sizeOf9
  v9 := Tryd.zeroValue9 }
open Go.RowKit Go.Lib in
theorem Tryd.path_Base (s : ByteArray) (w : World) (hs : s.size ≤ 9223372036854775807) :
    Calls Tryd.prog 7 #[.string s] w fun e w' => e = .returned (.string ⟨(Pa.base s.data.toList).toArray⟩) ∧ w' = w := Any.path_Base Tryd.laysPa25 s w hs
end Go.Proofs
