/-
  No cell of these rows narrows 'for every input' (looked for: loops, veiled, ifaces, maps, wideKeys, modest, calm, conditions, laid).
  DERIVED. THE GIVEN ROWS OF THIS SEAT. 11 by the template 'for every input the law returns true; each argument reads behind the call as it read before'; 0 by the template 'total and deterministic' (their statements: YtoaepbobbfgbgaaTotals.lean).
  GIVEN WITH THE SEED: the statements are not yours to turn. If you find one false, say at which input.
  Laid BY PROGRAM, IN A SANDBOX (cutbox-rows.mjs): the forced cells as the released guide's own fill.sh prints them over the translation b7cd538e81362f4d… (all of the seat's roots in one cut). By AI agents, Wed Nov 11 2026. No macro, syntax, notation, axiom, sorry.
-/
import Derived.Test.YtoaepbobbfgbgaaChecked
import GoSem.Claim
import GoSem.ClaimJoined
import GoSem.ClaimMapViews
import Derived.JoinedTies
import Derived.KernelRfl
namespace Go.Proofs.Ytoaepbobbfgbgaa
/- THE CELL 'sum', in the pinned program and in every row, IS THE sha256 OF THE DUMP (.gsa) THAT YtoaepbobbfgbgaaProg.lean LOADS. Nothing in Lean hashes anything: it is a label: what it is worth is what the hold of that sum in a sandbox is worth. -/
noncomputable def Try.pinned : Pinned := { name := "ytoaepbobbfgbgaa", sum := "b7cd538e81362f4db9938f06cc0dcc21b444717ecbcb918a9c476c3d17d4e9e2", checked := Try.checked }
namespace Rows
def none {H : Type} : Left H := { results := [], args := [] }

/-- 'laws.FnSplit': WHATEVER THE INPUT: true; the input reads as it did. -/
def fnSplitSpec : ChangeSpec := { name := "fnSplit", fn := fun _ => fun
  | [d] => { results := [.lit (.bool true)], args := [d] }
  | _ => none }
def fnSplitRow : OpenClaim := { program := "ytoaepbobbfgbgaa", sum := "b7cd538e81362f4db9938f06cc0dcc21b444717ecbcb918a9c476c3d17d4e9e2", func := "lib-waymark/laws.FnSplit", spec := "fnSplit", inPlace := ["internal/bytealg.IndexByteString"], apart := false }
def FnSplitSaid : Prop := fnSplitRow.holds Try.pinned (OpenSpec.ofChange fnSplitSpec)

/-- ITS FALSE NEIGHBOUR: 'it returns false'. Refute it at one input. -/
def fnSplitWrong : ChangeSpec := { name := "fnSplit", fn := fun _ => fun
  | [d] => { results := [.lit (.bool false)], args := [d] }
  | _ => none }
def FnSplitWrongFalsely : Prop := fnSplitRow.holds Try.pinned (OpenSpec.ofChange fnSplitWrong)

/-- 'laws.FnExt': WHATEVER THE INPUT: true; the input reads as it did. -/
def fnExtSpec : ChangeSpec := { name := "fnExt", fn := fun _ => fun
  | [d] => { results := [.lit (.bool true)], args := [d] }
  | _ => none }
def fnExtRow : OpenClaim := { program := "ytoaepbobbfgbgaa", sum := "b7cd538e81362f4db9938f06cc0dcc21b444717ecbcb918a9c476c3d17d4e9e2", func := "lib-waymark/laws.FnExt", spec := "fnExt", inPlace := ["internal/bytealg.IndexByteString"], apart := false }
def FnExtSaid : Prop := fnExtRow.holds Try.pinned (OpenSpec.ofChange fnExtSpec)

/-- ITS FALSE NEIGHBOUR: 'it returns false'. Refute it at one input. -/
def fnExtWrong : ChangeSpec := { name := "fnExt", fn := fun _ => fun
  | [d] => { results := [.lit (.bool false)], args := [d] }
  | _ => none }
def FnExtWrongFalsely : Prop := fnExtRow.holds Try.pinned (OpenSpec.ofChange fnExtWrong)

/-- 'laws.FnBase': WHATEVER THE INPUT: true; the input reads as it did. -/
def fnBaseSpec : ChangeSpec := { name := "fnBase", fn := fun _ => fun
  | [d] => { results := [.lit (.bool true)], args := [d] }
  | _ => none }
def fnBaseRow : OpenClaim := { program := "ytoaepbobbfgbgaa", sum := "b7cd538e81362f4db9938f06cc0dcc21b444717ecbcb918a9c476c3d17d4e9e2", func := "lib-waymark/laws.FnBase", spec := "fnBase", inPlace := ["internal/bytealg.IndexByteString"], apart := false }
def FnBaseSaid : Prop := fnBaseRow.holds Try.pinned (OpenSpec.ofChange fnBaseSpec)

/-- ITS FALSE NEIGHBOUR: 'it returns false'. Refute it at one input. -/
def fnBaseWrong : ChangeSpec := { name := "fnBase", fn := fun _ => fun
  | [d] => { results := [.lit (.bool false)], args := [d] }
  | _ => none }
def FnBaseWrongFalsely : Prop := fnBaseRow.holds Try.pinned (OpenSpec.ofChange fnBaseWrong)

/-- 'laws.FnClean': WHATEVER THE INPUT: true; the input reads as it did. -/
def fnCleanSpec : ChangeSpec := { name := "fnClean", fn := fun _ => fun
  | [d] => { results := [.lit (.bool true)], args := [d] }
  | _ => none }
def fnCleanRow : OpenClaim := { program := "ytoaepbobbfgbgaa", sum := "b7cd538e81362f4db9938f06cc0dcc21b444717ecbcb918a9c476c3d17d4e9e2", func := "lib-waymark/laws.FnClean", spec := "fnClean", inPlace := ["internal/bytealg.IndexByteString"], apart := false }
def FnCleanSaid : Prop := fnCleanRow.holds Try.pinned (OpenSpec.ofChange fnCleanSpec)

/-- ITS FALSE NEIGHBOUR: 'it returns false'. Refute it at one input. -/
def fnCleanWrong : ChangeSpec := { name := "fnClean", fn := fun _ => fun
  | [d] => { results := [.lit (.bool false)], args := [d] }
  | _ => none }
def FnCleanWrongFalsely : Prop := fnCleanRow.holds Try.pinned (OpenSpec.ofChange fnCleanWrong)

/-- 'laws.FnCleanDecides': WHATEVER THE INPUT: true; the input reads as it did. -/
def fnCleanDecidesSpec : ChangeSpec := { name := "fnCleanDecides", fn := fun _ => fun
  | [d1, d2] => { results := [.lit (.bool true)], args := [d1, d2] }
  | _ => none }
def fnCleanDecidesRow : OpenClaim := { program := "ytoaepbobbfgbgaa", sum := "b7cd538e81362f4db9938f06cc0dcc21b444717ecbcb918a9c476c3d17d4e9e2", func := "lib-waymark/laws.FnCleanDecides", spec := "fnCleanDecides", inPlace := ["internal/bytealg.IndexByteString"], apart := false }
def FnCleanDecidesSaid : Prop := fnCleanDecidesRow.holds Try.pinned (OpenSpec.ofChange fnCleanDecidesSpec)

/-- ITS FALSE NEIGHBOUR: 'it returns false'. Refute it at one input. -/
def fnCleanDecidesWrong : ChangeSpec := { name := "fnCleanDecides", fn := fun _ => fun
  | [d1, d2] => { results := [.lit (.bool false)], args := [d1, d2] }
  | _ => none }
def FnCleanDecidesWrongFalsely : Prop := fnCleanDecidesRow.holds Try.pinned (OpenSpec.ofChange fnCleanDecidesWrong)

/-- 'laws.FnCleanInAnyOrder': WHATEVER THE INPUT: true; the input reads as it did. -/
def fnCleanInAnyOrderSpec : ChangeSpec := { name := "fnCleanInAnyOrder", fn := fun _ => fun
  | [d1, d2] => { results := [.lit (.bool true)], args := [d1, d2] }
  | _ => none }
def fnCleanInAnyOrderRow : OpenClaim := { program := "ytoaepbobbfgbgaa", sum := "b7cd538e81362f4db9938f06cc0dcc21b444717ecbcb918a9c476c3d17d4e9e2", func := "lib-waymark/laws.FnCleanInAnyOrder", spec := "fnCleanInAnyOrder", inPlace := ["internal/bytealg.IndexByteString"], apart := false }
def FnCleanInAnyOrderSaid : Prop := fnCleanInAnyOrderRow.holds Try.pinned (OpenSpec.ofChange fnCleanInAnyOrderSpec)

/-- ITS FALSE NEIGHBOUR: 'it returns false'. Refute it at one input. -/
def fnCleanInAnyOrderWrong : ChangeSpec := { name := "fnCleanInAnyOrder", fn := fun _ => fun
  | [d1, d2] => { results := [.lit (.bool false)], args := [d1, d2] }
  | _ => none }
def FnCleanInAnyOrderWrongFalsely : Prop := fnCleanInAnyOrderRow.holds Try.pinned (OpenSpec.ofChange fnCleanInAnyOrderWrong)

/-- 'laws.FnCleanIsShortest': WHATEVER THE INPUT: true; the input reads as it did. -/
def fnCleanIsShortestSpec : ChangeSpec := { name := "fnCleanIsShortest", fn := fun _ => fun
  | [d1, d2] => { results := [.lit (.bool true)], args := [d1, d2] }
  | _ => none }
def fnCleanIsShortestRow : OpenClaim := { program := "ytoaepbobbfgbgaa", sum := "b7cd538e81362f4db9938f06cc0dcc21b444717ecbcb918a9c476c3d17d4e9e2", func := "lib-waymark/laws.FnCleanIsShortest", spec := "fnCleanIsShortest", inPlace := ["internal/bytealg.IndexByteString"], apart := false }
def FnCleanIsShortestSaid : Prop := fnCleanIsShortestRow.holds Try.pinned (OpenSpec.ofChange fnCleanIsShortestSpec)

/-- ITS FALSE NEIGHBOUR: 'it returns false'. Refute it at one input. -/
def fnCleanIsShortestWrong : ChangeSpec := { name := "fnCleanIsShortest", fn := fun _ => fun
  | [d1, d2] => { results := [.lit (.bool false)], args := [d1, d2] }
  | _ => none }
def FnCleanIsShortestWrongFalsely : Prop := fnCleanIsShortestRow.holds Try.pinned (OpenSpec.ofChange fnCleanIsShortestWrong)

/-- 'laws.FnCleanLeadsThere': WHATEVER THE INPUT: true; the input reads as it did. -/
def fnCleanLeadsThereSpec : ChangeSpec := { name := "fnCleanLeadsThere", fn := fun _ => fun
  | [d] => { results := [.lit (.bool true)], args := [d] }
  | _ => none }
def fnCleanLeadsThereRow : OpenClaim := { program := "ytoaepbobbfgbgaa", sum := "b7cd538e81362f4db9938f06cc0dcc21b444717ecbcb918a9c476c3d17d4e9e2", func := "lib-waymark/laws.FnCleanLeadsThere", spec := "fnCleanLeadsThere", inPlace := ["internal/bytealg.IndexByteString"], apart := false }
def FnCleanLeadsThereSaid : Prop := fnCleanLeadsThereRow.holds Try.pinned (OpenSpec.ofChange fnCleanLeadsThereSpec)

/-- ITS FALSE NEIGHBOUR: 'it returns false'. Refute it at one input. -/
def fnCleanLeadsThereWrong : ChangeSpec := { name := "fnCleanLeadsThere", fn := fun _ => fun
  | [d] => { results := [.lit (.bool false)], args := [d] }
  | _ => none }
def FnCleanLeadsThereWrongFalsely : Prop := fnCleanLeadsThereRow.holds Try.pinned (OpenSpec.ofChange fnCleanLeadsThereWrong)

/-- 'laws.FnDir': WHATEVER THE INPUT: true; the input reads as it did. -/
def fnDirSpec : ChangeSpec := { name := "fnDir", fn := fun _ => fun
  | [d] => { results := [.lit (.bool true)], args := [d] }
  | _ => none }
def fnDirRow : OpenClaim := { program := "ytoaepbobbfgbgaa", sum := "b7cd538e81362f4db9938f06cc0dcc21b444717ecbcb918a9c476c3d17d4e9e2", func := "lib-waymark/laws.FnDir", spec := "fnDir", inPlace := ["internal/bytealg.IndexByteString"], apart := false }
def FnDirSaid : Prop := fnDirRow.holds Try.pinned (OpenSpec.ofChange fnDirSpec)

/-- ITS FALSE NEIGHBOUR: 'it returns false'. Refute it at one input. -/
def fnDirWrong : ChangeSpec := { name := "fnDir", fn := fun _ => fun
  | [d] => { results := [.lit (.bool false)], args := [d] }
  | _ => none }
def FnDirWrongFalsely : Prop := fnDirRow.holds Try.pinned (OpenSpec.ofChange fnDirWrong)

/-- 'laws.FnJoin': WHATEVER THE INPUT: true; the input reads as it did. -/
def fnJoinSpec : ChangeSpec := { name := "fnJoin", fn := fun _ => fun
  | [d] => { results := [.lit (.bool true)], args := [d] }
  | _ => none }
def fnJoinRow : OpenClaim := { program := "ytoaepbobbfgbgaa", sum := "b7cd538e81362f4db9938f06cc0dcc21b444717ecbcb918a9c476c3d17d4e9e2", func := "lib-waymark/laws.FnJoin", spec := "fnJoin", inPlace := ["internal/bytealg.IndexByteString"], apart := false }
def FnJoinSaid : Prop := fnJoinRow.holds Try.pinned (OpenSpec.ofChange fnJoinSpec)

/-- ITS FALSE NEIGHBOUR: 'it returns false'. Refute it at one input. -/
def fnJoinWrong : ChangeSpec := { name := "fnJoin", fn := fun _ => fun
  | [d] => { results := [.lit (.bool false)], args := [d] }
  | _ => none }
def FnJoinWrongFalsely : Prop := fnJoinRow.holds Try.pinned (OpenSpec.ofChange fnJoinWrong)

/-- 'laws.FnDirIsDotDot': WHATEVER THE INPUT: true; the input reads as it did. -/
def fnDirIsDotDotSpec : ChangeSpec := { name := "fnDirIsDotDot", fn := fun _ => fun
  | [d] => { results := [.lit (.bool true)], args := [d] }
  | _ => none }
def fnDirIsDotDotRow : OpenClaim := { program := "ytoaepbobbfgbgaa", sum := "b7cd538e81362f4db9938f06cc0dcc21b444717ecbcb918a9c476c3d17d4e9e2", func := "lib-waymark/laws.FnDirIsDotDot", spec := "fnDirIsDotDot", inPlace := ["internal/bytealg.IndexByteString"], apart := false }
def FnDirIsDotDotSaid : Prop := fnDirIsDotDotRow.holds Try.pinned (OpenSpec.ofChange fnDirIsDotDotSpec)

/-- ITS FALSE NEIGHBOUR: 'it returns false'. Refute it at one input. -/
def fnDirIsDotDotWrong : ChangeSpec := { name := "fnDirIsDotDot", fn := fun _ => fun
  | [d] => { results := [.lit (.bool false)], args := [d] }
  | _ => none }
def FnDirIsDotDotWrongFalsely : Prop := fnDirIsDotDotRow.holds Try.pinned (OpenSpec.ofChange fnDirIsDotDotWrong)

/- THE SECOND FORM. 'bulk': how many values and letters a reading holds, each counted each time it is reached (what is shared counts as often as it is met; a slice's spare places count too). A statement '..UptoSaid' is the law's where the arguments, and the package variables that the reading takes, are together of bulk at most 1048576: NARROWER than '..Said'. Prove '..Said' where nothing that the law and all that it calls make is longer than what came in: it says more and counts as full. Else prove '..UptoSaid'. A law counts once. -/
mutual
def uptoBulk {H : Type} : DataW H → Nat
  | .lit (.string bytes) => bytes.length + 1
  | .lit _ => 1
  | .nil => 1
  | .ptr d => uptoBulk d + 1
  | .slice elems spare => uptoBulkAll elems + uptoBulkAll spare + 1
  | .agg parts => uptoBulkAll parts + 1
  | .iface _ d => uptoBulk d + 1
  | .map entries => uptoBulkEntries entries + 1
  | .held _ => 1
def uptoBulkAll {H : Type} : List (DataW H) → Nat
  | [] => 0
  | d :: r => uptoBulk d + uptoBulkAll r
def uptoBulkEntries {H : Type} : List (Lit × DataW H) → Nat
  | [] => 0
  | x :: r => uptoBulkEntry x + uptoBulkEntries r
def uptoBulkEntry {H : Type} : Lit × DataW H → Nat
  | (.string bytes, d) => bytes.length + uptoBulk d + 1
  | (_, d) => uptoBulk d + 1
 end
def uptoSmall : (H : Type) → List (DataW H) → Bool := fun _ ds => decide (uptoBulkAll ds ≤ 1048576)
def OpenSpec.upto (s : _root_.Go.ChangeSpec) : _root_.Go.OpenSpec := { _root_.Go.OpenSpec.ofChange s with cond := some uptoSmall }

/-- 'laws.FnSplit', WHERE WHAT IT READS IS OF BULK AT MOST 1048576: true; the input reads as it did. -/
def fnSplitUptoRow : OpenClaim := { program := "ytoaepbobbfgbgaa", sum := "b7cd538e81362f4db9938f06cc0dcc21b444717ecbcb918a9c476c3d17d4e9e2", func := "lib-waymark/laws.FnSplit", spec := "fnSplit", inPlace := ["internal/bytealg.IndexByteString"], apart := false, narrowed := true }
def FnSplitUptoSaid : Prop := fnSplitUptoRow.holds Try.pinned (OpenSpec.upto fnSplitSpec)

/-- 'laws.FnExt', WHERE WHAT IT READS IS OF BULK AT MOST 1048576: true; the input reads as it did. -/
def fnExtUptoRow : OpenClaim := { program := "ytoaepbobbfgbgaa", sum := "b7cd538e81362f4db9938f06cc0dcc21b444717ecbcb918a9c476c3d17d4e9e2", func := "lib-waymark/laws.FnExt", spec := "fnExt", inPlace := ["internal/bytealg.IndexByteString"], apart := false, narrowed := true }
def FnExtUptoSaid : Prop := fnExtUptoRow.holds Try.pinned (OpenSpec.upto fnExtSpec)

/-- 'laws.FnBase', WHERE WHAT IT READS IS OF BULK AT MOST 1048576: true; the input reads as it did. -/
def fnBaseUptoRow : OpenClaim := { program := "ytoaepbobbfgbgaa", sum := "b7cd538e81362f4db9938f06cc0dcc21b444717ecbcb918a9c476c3d17d4e9e2", func := "lib-waymark/laws.FnBase", spec := "fnBase", inPlace := ["internal/bytealg.IndexByteString"], apart := false, narrowed := true }
def FnBaseUptoSaid : Prop := fnBaseUptoRow.holds Try.pinned (OpenSpec.upto fnBaseSpec)

/-- 'laws.FnClean', WHERE WHAT IT READS IS OF BULK AT MOST 1048576: true; the input reads as it did. -/
def fnCleanUptoRow : OpenClaim := { program := "ytoaepbobbfgbgaa", sum := "b7cd538e81362f4db9938f06cc0dcc21b444717ecbcb918a9c476c3d17d4e9e2", func := "lib-waymark/laws.FnClean", spec := "fnClean", inPlace := ["internal/bytealg.IndexByteString"], apart := false, narrowed := true }
def FnCleanUptoSaid : Prop := fnCleanUptoRow.holds Try.pinned (OpenSpec.upto fnCleanSpec)

/-- 'laws.FnCleanDecides', WHERE WHAT IT READS IS OF BULK AT MOST 1048576: true; the input reads as it did. -/
def fnCleanDecidesUptoRow : OpenClaim := { program := "ytoaepbobbfgbgaa", sum := "b7cd538e81362f4db9938f06cc0dcc21b444717ecbcb918a9c476c3d17d4e9e2", func := "lib-waymark/laws.FnCleanDecides", spec := "fnCleanDecides", inPlace := ["internal/bytealg.IndexByteString"], apart := false, narrowed := true }
def FnCleanDecidesUptoSaid : Prop := fnCleanDecidesUptoRow.holds Try.pinned (OpenSpec.upto fnCleanDecidesSpec)

/-- 'laws.FnCleanInAnyOrder', WHERE WHAT IT READS IS OF BULK AT MOST 1048576: true; the input reads as it did. -/
def fnCleanInAnyOrderUptoRow : OpenClaim := { program := "ytoaepbobbfgbgaa", sum := "b7cd538e81362f4db9938f06cc0dcc21b444717ecbcb918a9c476c3d17d4e9e2", func := "lib-waymark/laws.FnCleanInAnyOrder", spec := "fnCleanInAnyOrder", inPlace := ["internal/bytealg.IndexByteString"], apart := false, narrowed := true }
def FnCleanInAnyOrderUptoSaid : Prop := fnCleanInAnyOrderUptoRow.holds Try.pinned (OpenSpec.upto fnCleanInAnyOrderSpec)

/-- 'laws.FnCleanIsShortest', WHERE WHAT IT READS IS OF BULK AT MOST 1048576: true; the input reads as it did. -/
def fnCleanIsShortestUptoRow : OpenClaim := { program := "ytoaepbobbfgbgaa", sum := "b7cd538e81362f4db9938f06cc0dcc21b444717ecbcb918a9c476c3d17d4e9e2", func := "lib-waymark/laws.FnCleanIsShortest", spec := "fnCleanIsShortest", inPlace := ["internal/bytealg.IndexByteString"], apart := false, narrowed := true }
def FnCleanIsShortestUptoSaid : Prop := fnCleanIsShortestUptoRow.holds Try.pinned (OpenSpec.upto fnCleanIsShortestSpec)

/-- 'laws.FnCleanLeadsThere', WHERE WHAT IT READS IS OF BULK AT MOST 1048576: true; the input reads as it did. -/
def fnCleanLeadsThereUptoRow : OpenClaim := { program := "ytoaepbobbfgbgaa", sum := "b7cd538e81362f4db9938f06cc0dcc21b444717ecbcb918a9c476c3d17d4e9e2", func := "lib-waymark/laws.FnCleanLeadsThere", spec := "fnCleanLeadsThere", inPlace := ["internal/bytealg.IndexByteString"], apart := false, narrowed := true }
def FnCleanLeadsThereUptoSaid : Prop := fnCleanLeadsThereUptoRow.holds Try.pinned (OpenSpec.upto fnCleanLeadsThereSpec)

/-- 'laws.FnDir', WHERE WHAT IT READS IS OF BULK AT MOST 1048576: true; the input reads as it did. -/
def fnDirUptoRow : OpenClaim := { program := "ytoaepbobbfgbgaa", sum := "b7cd538e81362f4db9938f06cc0dcc21b444717ecbcb918a9c476c3d17d4e9e2", func := "lib-waymark/laws.FnDir", spec := "fnDir", inPlace := ["internal/bytealg.IndexByteString"], apart := false, narrowed := true }
def FnDirUptoSaid : Prop := fnDirUptoRow.holds Try.pinned (OpenSpec.upto fnDirSpec)

/-- 'laws.FnJoin', WHERE WHAT IT READS IS OF BULK AT MOST 1048576: true; the input reads as it did. -/
def fnJoinUptoRow : OpenClaim := { program := "ytoaepbobbfgbgaa", sum := "b7cd538e81362f4db9938f06cc0dcc21b444717ecbcb918a9c476c3d17d4e9e2", func := "lib-waymark/laws.FnJoin", spec := "fnJoin", inPlace := ["internal/bytealg.IndexByteString"], apart := false, narrowed := true }
def FnJoinUptoSaid : Prop := fnJoinUptoRow.holds Try.pinned (OpenSpec.upto fnJoinSpec)

/-- 'laws.FnDirIsDotDot', WHERE WHAT IT READS IS OF BULK AT MOST 1048576: true; the input reads as it did. -/
def fnDirIsDotDotUptoRow : OpenClaim := { program := "ytoaepbobbfgbgaa", sum := "b7cd538e81362f4db9938f06cc0dcc21b444717ecbcb918a9c476c3d17d4e9e2", func := "lib-waymark/laws.FnDirIsDotDot", spec := "fnDirIsDotDot", inPlace := ["internal/bytealg.IndexByteString"], apart := false, narrowed := true }
def FnDirIsDotDotUptoSaid : Prop := fnDirIsDotDotUptoRow.holds Try.pinned (OpenSpec.upto fnDirIsDotDotSpec)

end Rows
end Go.Proofs.Ytoaepbobbfgbgaa
