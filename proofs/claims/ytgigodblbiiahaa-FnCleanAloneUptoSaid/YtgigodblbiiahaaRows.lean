/-
  No cell of these rows narrows 'for every input' (looked for: loops, veiled, ifaces, maps, wideKeys, modest, calm, conditions, laid).
  DERIVED. THE GIVEN ROWS OF THIS SEAT. 9 by the template 'for every input the law returns true; each argument reads behind the call as it read before'; 0 by the template 'total and deterministic' (their statements: YtgigodblbiiahaaTotals.lean).
  GIVEN WITH THE SEED: the statements are not yours to turn. If you find one false, say at which input.
  Laid BY PROGRAM, IN A SANDBOX (cutbox-rows.mjs): the forced cells as the released guide's own fill.sh prints them over the translation b437af28bacf90f3… (all of the seat's roots in one cut). By AI agents, Wed Nov 11 2026. No macro, syntax, notation, axiom, sorry.
-/
import Derived.Test.YtgigodblbiiahaaChecked
import GoSem.Claim
import GoSem.ClaimJoined
import GoSem.ClaimMapViews
import Derived.JoinedTies
import Derived.KernelRfl
namespace Go.Proofs.Ytgigodblbiiahaa
/- THE CELL 'sum', in the pinned program and in every row, IS THE sha256 OF THE DUMP (.gsa) THAT YtgigodblbiiahaaProg.lean LOADS. Nothing in Lean hashes anything: it is a label: what it is worth is what the hold of that sum in a sandbox is worth. -/
noncomputable def Try.pinned : Pinned := { name := "ytgigodblbiiahaa", sum := "b437af28bacf90f3143f9a4665897a9457d35ef4f798c7c7229d5c3e57ae1548", checked := Try.checked }
namespace Rows
def none {H : Type} : Left H := { results := [], args := [] }

/-- 'laws.FnJoinCleansElements': WHATEVER THE INPUT: true; the input reads as it did. -/
def fnJoinCleansElementsSpec : ChangeSpec := { name := "fnJoinCleansElements", fn := fun _ => fun
  | [d1, d2] => { results := [.lit (.bool true)], args := [d1, d2] }
  | _ => none }
def fnJoinCleansElementsRow : OpenClaim := { program := "ytgigodblbiiahaa", sum := "b437af28bacf90f3143f9a4665897a9457d35ef4f798c7c7229d5c3e57ae1548", func := "lib-waymark/laws.FnJoinCleansElements", spec := "fnJoinCleansElements", apart := false }
def FnJoinCleansElementsSaid : Prop := fnJoinCleansElementsRow.holds Try.pinned (OpenSpec.ofChange fnJoinCleansElementsSpec)

/-- ITS FALSE NEIGHBOUR: 'it returns false'. Refute it at one input. -/
def fnJoinCleansElementsWrong : ChangeSpec := { name := "fnJoinCleansElements", fn := fun _ => fun
  | [d1, d2] => { results := [.lit (.bool false)], args := [d1, d2] }
  | _ => none }
def FnJoinCleansElementsWrongFalsely : Prop := fnJoinCleansElementsRow.holds Try.pinned (OpenSpec.ofChange fnJoinCleansElementsWrong)

/-- 'laws.FnNamesDoNotMatter': WHATEVER THE INPUT: true; the input reads as it did. -/
def fnNamesDoNotMatterSpec : ChangeSpec := { name := "fnNamesDoNotMatter", fn := fun _ => fun
  | [d1, d2, d3] => { results := [.lit (.bool true)], args := [d1, d2, d3] }
  | _ => none }
def fnNamesDoNotMatterRow : OpenClaim := { program := "ytgigodblbiiahaa", sum := "b437af28bacf90f3143f9a4665897a9457d35ef4f798c7c7229d5c3e57ae1548", func := "lib-waymark/laws.FnNamesDoNotMatter", spec := "fnNamesDoNotMatter", apart := false }
def FnNamesDoNotMatterSaid : Prop := fnNamesDoNotMatterRow.holds Try.pinned (OpenSpec.ofChange fnNamesDoNotMatterSpec)

/-- ITS FALSE NEIGHBOUR: 'it returns false'. Refute it at one input. -/
def fnNamesDoNotMatterWrong : ChangeSpec := { name := "fnNamesDoNotMatter", fn := fun _ => fun
  | [d1, d2, d3] => { results := [.lit (.bool false)], args := [d1, d2, d3] }
  | _ => none }
def FnNamesDoNotMatterWrongFalsely : Prop := fnNamesDoNotMatterRow.holds Try.pinned (OpenSpec.ofChange fnNamesDoNotMatterWrong)

/-- 'laws.FnDirAndBaseMakeThePath': WHATEVER THE INPUT: true; the input reads as it did. -/
def fnDirAndBaseMakeThePathSpec : ChangeSpec := { name := "fnDirAndBaseMakeThePath", fn := fun _ => fun
  | [d] => { results := [.lit (.bool true)], args := [d] }
  | _ => none }
def fnDirAndBaseMakeThePathRow : OpenClaim := { program := "ytgigodblbiiahaa", sum := "b437af28bacf90f3143f9a4665897a9457d35ef4f798c7c7229d5c3e57ae1548", func := "lib-waymark/laws.FnDirAndBaseMakeThePath", spec := "fnDirAndBaseMakeThePath", apart := false }
def FnDirAndBaseMakeThePathSaid : Prop := fnDirAndBaseMakeThePathRow.holds Try.pinned (OpenSpec.ofChange fnDirAndBaseMakeThePathSpec)

/-- ITS FALSE NEIGHBOUR: 'it returns false'. Refute it at one input. -/
def fnDirAndBaseMakeThePathWrong : ChangeSpec := { name := "fnDirAndBaseMakeThePath", fn := fun _ => fun
  | [d] => { results := [.lit (.bool false)], args := [d] }
  | _ => none }
def FnDirAndBaseMakeThePathWrongFalsely : Prop := fnDirAndBaseMakeThePathRow.holds Try.pinned (OpenSpec.ofChange fnDirAndBaseMakeThePathWrong)

/-- 'laws.FnResultsAreClean': WHATEVER THE INPUT: true; the input reads as it did. -/
def fnResultsAreCleanSpec : ChangeSpec := { name := "fnResultsAreClean", fn := fun _ => fun
  | [d1, d2] => { results := [.lit (.bool true)], args := [d1, d2] }
  | _ => none }
def fnResultsAreCleanRow : OpenClaim := { program := "ytgigodblbiiahaa", sum := "b437af28bacf90f3143f9a4665897a9457d35ef4f798c7c7229d5c3e57ae1548", func := "lib-waymark/laws.FnResultsAreClean", spec := "fnResultsAreClean", inPlace := ["internal/abi.NoEscape", "internal/bytealg.MakeNoZero"], apart := false }
def FnResultsAreCleanSaid : Prop := fnResultsAreCleanRow.holds Try.pinned (OpenSpec.ofChange fnResultsAreCleanSpec)

/-- ITS FALSE NEIGHBOUR: 'it returns false'. Refute it at one input. -/
def fnResultsAreCleanWrong : ChangeSpec := { name := "fnResultsAreClean", fn := fun _ => fun
  | [d1, d2] => { results := [.lit (.bool false)], args := [d1, d2] }
  | _ => none }
def FnResultsAreCleanWrongFalsely : Prop := fnResultsAreCleanRow.holds Try.pinned (OpenSpec.ofChange fnResultsAreCleanWrong)

/-- 'laws.FnJoinFromLeft': WHATEVER THE INPUT: true; the input reads as it did. -/
def fnJoinFromLeftSpec : ChangeSpec := { name := "fnJoinFromLeft", fn := fun _ => fun
  | [d1, d2] => { results := [.lit (.bool true)], args := [d1, d2] }
  | _ => none }
def fnJoinFromLeftRow : OpenClaim := { program := "ytgigodblbiiahaa", sum := "b437af28bacf90f3143f9a4665897a9457d35ef4f798c7c7229d5c3e57ae1548", func := "lib-waymark/laws.FnJoinFromLeft", spec := "fnJoinFromLeft", inPlace := ["internal/abi.NoEscape", "internal/bytealg.MakeNoZero"], apart := false }
def FnJoinFromLeftSaid : Prop := fnJoinFromLeftRow.holds Try.pinned (OpenSpec.ofChange fnJoinFromLeftSpec)

/-- ITS FALSE NEIGHBOUR: 'it returns false'. Refute it at one input. -/
def fnJoinFromLeftWrong : ChangeSpec := { name := "fnJoinFromLeft", fn := fun _ => fun
  | [d1, d2] => { results := [.lit (.bool false)], args := [d1, d2] }
  | _ => none }
def FnJoinFromLeftWrongFalsely : Prop := fnJoinFromLeftRow.holds Try.pinned (OpenSpec.ofChange fnJoinFromLeftWrong)

/-- 'laws.FnJoinFromRight': WHATEVER THE INPUT: true; the input reads as it did. -/
def fnJoinFromRightSpec : ChangeSpec := { name := "fnJoinFromRight", fn := fun _ => fun
  | [d1, d2] => { results := [.lit (.bool true)], args := [d1, d2] }
  | _ => none }
def fnJoinFromRightRow : OpenClaim := { program := "ytgigodblbiiahaa", sum := "b437af28bacf90f3143f9a4665897a9457d35ef4f798c7c7229d5c3e57ae1548", func := "lib-waymark/laws.FnJoinFromRight", spec := "fnJoinFromRight", inPlace := ["internal/abi.NoEscape", "internal/bytealg.MakeNoZero"], apart := false }
def FnJoinFromRightSaid : Prop := fnJoinFromRightRow.holds Try.pinned (OpenSpec.ofChange fnJoinFromRightSpec)

/-- ITS FALSE NEIGHBOUR: 'it returns false'. Refute it at one input. -/
def fnJoinFromRightWrong : ChangeSpec := { name := "fnJoinFromRight", fn := fun _ => fun
  | [d1, d2] => { results := [.lit (.bool false)], args := [d1, d2] }
  | _ => none }
def FnJoinFromRightWrongFalsely : Prop := fnJoinFromRightRow.holds Try.pinned (OpenSpec.ofChange fnJoinFromRightWrong)

/-- 'laws.FnCleanAlone': WHATEVER THE INPUT: true; the input reads as it did. -/
def fnCleanAloneSpec : ChangeSpec := { name := "fnCleanAlone", fn := fun _ => fun
  | [d1, d2, d3] => { results := [.lit (.bool true)], args := [d1, d2, d3] }
  | _ => none }
def fnCleanAloneRow : OpenClaim := { program := "ytgigodblbiiahaa", sum := "b437af28bacf90f3143f9a4665897a9457d35ef4f798c7c7229d5c3e57ae1548", func := "lib-waymark/laws.FnCleanAlone", spec := "fnCleanAlone", inPlace := ["internal/bytealg.IndexByteString", "internal/bytealg.IndexString", "internal/abi.NoEscape", "internal/bytealg.MakeNoZero"], named := ["internal/bytealg.MaxLen"], apart := false }
def FnCleanAloneSaid : Prop := fnCleanAloneRow.holds Try.pinned (OpenSpec.ofChange fnCleanAloneSpec)

/-- ITS FALSE NEIGHBOUR: 'it returns false'. Refute it at one input. -/
def fnCleanAloneWrong : ChangeSpec := { name := "fnCleanAlone", fn := fun _ => fun
  | [d1, d2, d3] => { results := [.lit (.bool false)], args := [d1, d2, d3] }
  | _ => none }
def FnCleanAloneWrongFalsely : Prop := fnCleanAloneRow.holds Try.pinned (OpenSpec.ofChange fnCleanAloneWrong)

/-- 'laws.FnJoinedIsTakenApart': WHATEVER THE INPUT: true; the input reads as it did. -/
def fnJoinedIsTakenApartSpec : ChangeSpec := { name := "fnJoinedIsTakenApart", fn := fun _ => fun
  | [d1, d2] => { results := [.lit (.bool true)], args := [d1, d2] }
  | _ => none }
def fnJoinedIsTakenApartRow : OpenClaim := { program := "ytgigodblbiiahaa", sum := "b437af28bacf90f3143f9a4665897a9457d35ef4f798c7c7229d5c3e57ae1548", func := "lib-waymark/laws.FnJoinedIsTakenApart", spec := "fnJoinedIsTakenApart", inPlace := ["internal/bytealg.IndexByteString", "internal/bytealg.IndexString"], named := ["internal/bytealg.MaxLen"], apart := false }
def FnJoinedIsTakenApartSaid : Prop := fnJoinedIsTakenApartRow.holds Try.pinned (OpenSpec.ofChange fnJoinedIsTakenApartSpec)

/-- ITS FALSE NEIGHBOUR: 'it returns false'. Refute it at one input. -/
def fnJoinedIsTakenApartWrong : ChangeSpec := { name := "fnJoinedIsTakenApart", fn := fun _ => fun
  | [d1, d2] => { results := [.lit (.bool false)], args := [d1, d2] }
  | _ => none }
def FnJoinedIsTakenApartWrongFalsely : Prop := fnJoinedIsTakenApartRow.holds Try.pinned (OpenSpec.ofChange fnJoinedIsTakenApartWrong)

/-- 'laws.FnJoinLeavesEmptyOut': WHATEVER THE INPUT: true; the input reads as it did. -/
def fnJoinLeavesEmptyOutSpec : ChangeSpec := { name := "fnJoinLeavesEmptyOut", fn := fun _ => fun
  | [d1, d2] => { results := [.lit (.bool true)], args := [d1, d2] }
  | _ => none }
def fnJoinLeavesEmptyOutRow : OpenClaim := { program := "ytgigodblbiiahaa", sum := "b437af28bacf90f3143f9a4665897a9457d35ef4f798c7c7229d5c3e57ae1548", func := "lib-waymark/laws.FnJoinLeavesEmptyOut", spec := "fnJoinLeavesEmptyOut", inPlace := ["slices.overlaps[string]", "internal/abi.NoEscape", "internal/bytealg.MakeNoZero"], apart := false }
def FnJoinLeavesEmptyOutSaid : Prop := fnJoinLeavesEmptyOutRow.holds Try.pinned (OpenSpec.ofChange fnJoinLeavesEmptyOutSpec)

/-- ITS FALSE NEIGHBOUR: 'it returns false'. Refute it at one input. -/
def fnJoinLeavesEmptyOutWrong : ChangeSpec := { name := "fnJoinLeavesEmptyOut", fn := fun _ => fun
  | [d1, d2] => { results := [.lit (.bool false)], args := [d1, d2] }
  | _ => none }
def FnJoinLeavesEmptyOutWrongFalsely : Prop := fnJoinLeavesEmptyOutRow.holds Try.pinned (OpenSpec.ofChange fnJoinLeavesEmptyOutWrong)

/- THE SECOND FORM. 'bulk': how many values and letters a reading holds, each counted each time it is reached (what is shared counts as often as it is met; a slice's spare places count too). A statement '..UptoSaid' is the law's where the arguments, and the package variables that the reading takes, are together of bulk at most 1048576: NARROWER than '..Said'. Prove '..Said' where nothing that the law and all that it calls make is longer than what came in: it says more and counts as full. Else prove '..UptoSaid'. A law counts once. -/
mutual
def uptoBulk {H : Type} : DataW H → Nat
  | .lit (.string bytes) => bytes.length + 1
  | .lit _ => 1
  | .nil => 1
  | .ptr d => uptoBulk d + 1
  | .slice elems spare => uptoBulkAll elems + uptoBulkAll spare + 1
  | .agg parts => uptoBulkAll parts + 1
  | .iface _ d => uptoBulk d + 1
  | .map entries => uptoBulkEntries entries + 1
  | .held _ => 1
def uptoBulkAll {H : Type} : List (DataW H) → Nat
  | [] => 0
  | d :: r => uptoBulk d + uptoBulkAll r
def uptoBulkEntries {H : Type} : List (Lit × DataW H) → Nat
  | [] => 0
  | x :: r => uptoBulkEntry x + uptoBulkEntries r
def uptoBulkEntry {H : Type} : Lit × DataW H → Nat
  | (.string bytes, d) => bytes.length + uptoBulk d + 1
  | (_, d) => uptoBulk d + 1
 end
def uptoSmall : (H : Type) → List (DataW H) → Bool := fun _ ds => decide (uptoBulkAll ds ≤ 1048576)
def OpenSpec.upto (s : _root_.Go.ChangeSpec) : _root_.Go.OpenSpec := { _root_.Go.OpenSpec.ofChange s with cond := some uptoSmall }

/-- 'laws.FnJoinCleansElements', WHERE WHAT IT READS IS OF BULK AT MOST 1048576: true; the input reads as it did. -/
def fnJoinCleansElementsUptoRow : OpenClaim := { program := "ytgigodblbiiahaa", sum := "b437af28bacf90f3143f9a4665897a9457d35ef4f798c7c7229d5c3e57ae1548", func := "lib-waymark/laws.FnJoinCleansElements", spec := "fnJoinCleansElements", apart := false, narrowed := true }
def FnJoinCleansElementsUptoSaid : Prop := fnJoinCleansElementsUptoRow.holds Try.pinned (OpenSpec.upto fnJoinCleansElementsSpec)

/-- 'laws.FnNamesDoNotMatter', WHERE WHAT IT READS IS OF BULK AT MOST 1048576: true; the input reads as it did. -/
def fnNamesDoNotMatterUptoRow : OpenClaim := { program := "ytgigodblbiiahaa", sum := "b437af28bacf90f3143f9a4665897a9457d35ef4f798c7c7229d5c3e57ae1548", func := "lib-waymark/laws.FnNamesDoNotMatter", spec := "fnNamesDoNotMatter", apart := false, narrowed := true }
def FnNamesDoNotMatterUptoSaid : Prop := fnNamesDoNotMatterUptoRow.holds Try.pinned (OpenSpec.upto fnNamesDoNotMatterSpec)

/-- 'laws.FnDirAndBaseMakeThePath', WHERE WHAT IT READS IS OF BULK AT MOST 1048576: true; the input reads as it did. -/
def fnDirAndBaseMakeThePathUptoRow : OpenClaim := { program := "ytgigodblbiiahaa", sum := "b437af28bacf90f3143f9a4665897a9457d35ef4f798c7c7229d5c3e57ae1548", func := "lib-waymark/laws.FnDirAndBaseMakeThePath", spec := "fnDirAndBaseMakeThePath", apart := false, narrowed := true }
def FnDirAndBaseMakeThePathUptoSaid : Prop := fnDirAndBaseMakeThePathUptoRow.holds Try.pinned (OpenSpec.upto fnDirAndBaseMakeThePathSpec)

/-- 'laws.FnResultsAreClean', WHERE WHAT IT READS IS OF BULK AT MOST 1048576: true; the input reads as it did. -/
def fnResultsAreCleanUptoRow : OpenClaim := { program := "ytgigodblbiiahaa", sum := "b437af28bacf90f3143f9a4665897a9457d35ef4f798c7c7229d5c3e57ae1548", func := "lib-waymark/laws.FnResultsAreClean", spec := "fnResultsAreClean", inPlace := ["internal/abi.NoEscape", "internal/bytealg.MakeNoZero"], apart := false, narrowed := true }
def FnResultsAreCleanUptoSaid : Prop := fnResultsAreCleanUptoRow.holds Try.pinned (OpenSpec.upto fnResultsAreCleanSpec)

/-- 'laws.FnJoinFromLeft', WHERE WHAT IT READS IS OF BULK AT MOST 1048576: true; the input reads as it did. -/
def fnJoinFromLeftUptoRow : OpenClaim := { program := "ytgigodblbiiahaa", sum := "b437af28bacf90f3143f9a4665897a9457d35ef4f798c7c7229d5c3e57ae1548", func := "lib-waymark/laws.FnJoinFromLeft", spec := "fnJoinFromLeft", inPlace := ["internal/abi.NoEscape", "internal/bytealg.MakeNoZero"], apart := false, narrowed := true }
def FnJoinFromLeftUptoSaid : Prop := fnJoinFromLeftUptoRow.holds Try.pinned (OpenSpec.upto fnJoinFromLeftSpec)

/-- 'laws.FnJoinFromRight', WHERE WHAT IT READS IS OF BULK AT MOST 1048576: true; the input reads as it did. -/
def fnJoinFromRightUptoRow : OpenClaim := { program := "ytgigodblbiiahaa", sum := "b437af28bacf90f3143f9a4665897a9457d35ef4f798c7c7229d5c3e57ae1548", func := "lib-waymark/laws.FnJoinFromRight", spec := "fnJoinFromRight", inPlace := ["internal/abi.NoEscape", "internal/bytealg.MakeNoZero"], apart := false, narrowed := true }
def FnJoinFromRightUptoSaid : Prop := fnJoinFromRightUptoRow.holds Try.pinned (OpenSpec.upto fnJoinFromRightSpec)

/-- 'laws.FnCleanAlone', WHERE WHAT IT READS IS OF BULK AT MOST 1048576: true; the input reads as it did. -/
def fnCleanAloneUptoRow : OpenClaim := { program := "ytgigodblbiiahaa", sum := "b437af28bacf90f3143f9a4665897a9457d35ef4f798c7c7229d5c3e57ae1548", func := "lib-waymark/laws.FnCleanAlone", spec := "fnCleanAlone", inPlace := ["internal/bytealg.IndexByteString", "internal/bytealg.IndexString", "internal/abi.NoEscape", "internal/bytealg.MakeNoZero"], named := ["internal/bytealg.MaxLen"], apart := false, narrowed := true }
def FnCleanAloneUptoSaid : Prop := fnCleanAloneUptoRow.holds Try.pinned (OpenSpec.upto fnCleanAloneSpec)

/-- 'laws.FnJoinedIsTakenApart', WHERE WHAT IT READS IS OF BULK AT MOST 1048576: true; the input reads as it did. -/
def fnJoinedIsTakenApartUptoRow : OpenClaim := { program := "ytgigodblbiiahaa", sum := "b437af28bacf90f3143f9a4665897a9457d35ef4f798c7c7229d5c3e57ae1548", func := "lib-waymark/laws.FnJoinedIsTakenApart", spec := "fnJoinedIsTakenApart", inPlace := ["internal/bytealg.IndexByteString", "internal/bytealg.IndexString"], named := ["internal/bytealg.MaxLen"], apart := false, narrowed := true }
def FnJoinedIsTakenApartUptoSaid : Prop := fnJoinedIsTakenApartUptoRow.holds Try.pinned (OpenSpec.upto fnJoinedIsTakenApartSpec)

/-- 'laws.FnJoinLeavesEmptyOut', WHERE WHAT IT READS IS OF BULK AT MOST 1048576: true; the input reads as it did. -/
def fnJoinLeavesEmptyOutUptoRow : OpenClaim := { program := "ytgigodblbiiahaa", sum := "b437af28bacf90f3143f9a4665897a9457d35ef4f798c7c7229d5c3e57ae1548", func := "lib-waymark/laws.FnJoinLeavesEmptyOut", spec := "fnJoinLeavesEmptyOut", inPlace := ["slices.overlaps[string]", "internal/abi.NoEscape", "internal/bytealg.MakeNoZero"], apart := false, narrowed := true }
def FnJoinLeavesEmptyOutUptoSaid : Prop := fnJoinLeavesEmptyOutUptoRow.holds Try.pinned (OpenSpec.upto fnJoinLeavesEmptyOutSpec)

end Rows
end Go.Proofs.Ytgigodblbiiahaa
