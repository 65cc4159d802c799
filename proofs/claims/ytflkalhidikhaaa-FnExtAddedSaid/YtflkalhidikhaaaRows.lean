/-
  No cell of these rows narrows 'for every input' (looked for: loops, veiled, ifaces, maps, wideKeys, modest, calm, conditions, laid).
  DERIVED. THE GIVEN ROWS OF THIS SEAT. 11 by the template 'for every input the law returns true; each argument reads behind the call as it read before'; 0 by the template 'total and deterministic' (their statements: YtflkalhidikhaaaTotals.lean).
  GIVEN WITH THE SEED: the statements are not yours to turn. If you find one false, say at which input.
  Laid BY PROGRAM, IN A SANDBOX (cutbox-rows.mjs): the forced cells as the released guide's own fill.sh prints them over the translation 98a286c2d8d34651… (all of the seat's roots in one cut). By AI agents, Wed Nov 11 2026. No macro, syntax, notation, axiom, sorry.
-/
import Derived.Test.YtflkalhidikhaaaChecked
import GoSem.Claim
import GoSem.ClaimJoined
import GoSem.ClaimMapViews
import Derived.JoinedTies
import Derived.KernelRfl
namespace Go.Proofs.Ytflkalhidikhaaa
/- THE CELL 'sum', in the pinned program and in every row, IS THE sha256 OF THE DUMP (.gsa) THAT YtflkalhidikhaaaProg.lean LOADS. Nothing in Lean hashes anything: it is a label: what it is worth is what the hold of that sum in a sandbox is worth. -/
noncomputable def Try.pinned : Pinned := { name := "ytflkalhidikhaaa", sum := "98a286c2d8d346511de52845e78383188871cfd411062637efc35e6426cd6d4b", checked := Try.checked }
namespace Rows
def none {H : Type} : Left H := { results := [], args := [] }

/-- 'laws.FnSplitJoins': WHATEVER THE INPUT: true; the input reads as it did. -/
def fnSplitJoinsSpec : ChangeSpec := { name := "fnSplitJoins", fn := fun _ => fun
  | [d] => { results := [.lit (.bool true)], args := [d] }
  | _ => none }
def fnSplitJoinsRow : OpenClaim := { program := "ytflkalhidikhaaa", sum := "98a286c2d8d346511de52845e78383188871cfd411062637efc35e6426cd6d4b", func := "lib-waymark/laws.FnSplitJoins", spec := "fnSplitJoins", inPlace := ["internal/bytealg.IndexByteString", "internal/bytealg.IndexString"], named := ["internal/bytealg.MaxLen"], apart := false }
def FnSplitJoinsSaid : Prop := fnSplitJoinsRow.holds Try.pinned (OpenSpec.ofChange fnSplitJoinsSpec)

/-- ITS FALSE NEIGHBOUR: 'it returns false'. Refute it at one input. -/
def fnSplitJoinsWrong : ChangeSpec := { name := "fnSplitJoins", fn := fun _ => fun
  | [d] => { results := [.lit (.bool false)], args := [d] }
  | _ => none }
def FnSplitJoinsWrongFalsely : Prop := fnSplitJoinsRow.holds Try.pinned (OpenSpec.ofChange fnSplitJoinsWrong)

/-- 'laws.FnSplitUndoes': WHATEVER THE INPUT: true; the input reads as it did. -/
def fnSplitUndoesSpec : ChangeSpec := { name := "fnSplitUndoes", fn := fun _ => fun
  | [d1, d2] => { results := [.lit (.bool true)], args := [d1, d2] }
  | _ => none }
def fnSplitUndoesRow : OpenClaim := { program := "ytflkalhidikhaaa", sum := "98a286c2d8d346511de52845e78383188871cfd411062637efc35e6426cd6d4b", func := "lib-waymark/laws.FnSplitUndoes", spec := "fnSplitUndoes", inPlace := ["internal/bytealg.IndexByteString", "internal/bytealg.IndexString"], named := ["internal/bytealg.MaxLen"], apart := false }
def FnSplitUndoesSaid : Prop := fnSplitUndoesRow.holds Try.pinned (OpenSpec.ofChange fnSplitUndoesSpec)

/-- ITS FALSE NEIGHBOUR: 'it returns false'. Refute it at one input. -/
def fnSplitUndoesWrong : ChangeSpec := { name := "fnSplitUndoes", fn := fun _ => fun
  | [d1, d2] => { results := [.lit (.bool false)], args := [d1, d2] }
  | _ => none }
def FnSplitUndoesWrongFalsely : Prop := fnSplitUndoesRow.holds Try.pinned (OpenSpec.ofChange fnSplitUndoesWrong)

/-- 'laws.FnBaseForm': WHATEVER THE INPUT: true; the input reads as it did. -/
def fnBaseFormSpec : ChangeSpec := { name := "fnBaseForm", fn := fun _ => fun
  | [d] => { results := [.lit (.bool true)], args := [d] }
  | _ => none }
def fnBaseFormRow : OpenClaim := { program := "ytflkalhidikhaaa", sum := "98a286c2d8d346511de52845e78383188871cfd411062637efc35e6426cd6d4b", func := "lib-waymark/laws.FnBaseForm", spec := "fnBaseForm", inPlace := ["internal/bytealg.IndexByteString", "internal/bytealg.IndexString"], named := ["internal/bytealg.MaxLen"], apart := false }
def FnBaseFormSaid : Prop := fnBaseFormRow.holds Try.pinned (OpenSpec.ofChange fnBaseFormSpec)

/-- ITS FALSE NEIGHBOUR: 'it returns false'. Refute it at one input. -/
def fnBaseFormWrong : ChangeSpec := { name := "fnBaseForm", fn := fun _ => fun
  | [d] => { results := [.lit (.bool false)], args := [d] }
  | _ => none }
def FnBaseFormWrongFalsely : Prop := fnBaseFormRow.holds Try.pinned (OpenSpec.ofChange fnBaseFormWrong)

/-- 'laws.FnIsAbsByJoin': WHATEVER THE INPUT: true; the input reads as it did. -/
def fnIsAbsByJoinSpec : ChangeSpec := { name := "fnIsAbsByJoin", fn := fun _ => fun
  | [d1, d2, d3] => { results := [.lit (.bool true)], args := [d1, d2, d3] }
  | _ => none }
def fnIsAbsByJoinRow : OpenClaim := { program := "ytflkalhidikhaaa", sum := "98a286c2d8d346511de52845e78383188871cfd411062637efc35e6426cd6d4b", func := "lib-waymark/laws.FnIsAbsByJoin", spec := "fnIsAbsByJoin", inPlace := ["internal/abi.NoEscape", "internal/bytealg.MakeNoZero"], apart := false }
def FnIsAbsByJoinSaid : Prop := fnIsAbsByJoinRow.holds Try.pinned (OpenSpec.ofChange fnIsAbsByJoinSpec)

/-- ITS FALSE NEIGHBOUR: 'it returns false'. Refute it at one input. -/
def fnIsAbsByJoinWrong : ChangeSpec := { name := "fnIsAbsByJoin", fn := fun _ => fun
  | [d1, d2, d3] => { results := [.lit (.bool false)], args := [d1, d2, d3] }
  | _ => none }
def FnIsAbsByJoinWrongFalsely : Prop := fnIsAbsByJoinRow.holds Try.pinned (OpenSpec.ofChange fnIsAbsByJoinWrong)

/-- 'laws.FnExtAdded': WHATEVER THE INPUT: true; the input reads as it did. -/
def fnExtAddedSpec : ChangeSpec := { name := "fnExtAdded", fn := fun _ => fun
  | [d1, d2] => { results := [.lit (.bool true)], args := [d1, d2] }
  | _ => none }
def fnExtAddedRow : OpenClaim := { program := "ytflkalhidikhaaa", sum := "98a286c2d8d346511de52845e78383188871cfd411062637efc35e6426cd6d4b", func := "lib-waymark/laws.FnExtAdded", spec := "fnExtAdded", inPlace := ["internal/bytealg.IndexByteString", "internal/bytealg.IndexString"], named := ["internal/bytealg.MaxLen"], apart := false }
def FnExtAddedSaid : Prop := fnExtAddedRow.holds Try.pinned (OpenSpec.ofChange fnExtAddedSpec)

/-- ITS FALSE NEIGHBOUR: 'it returns false'. Refute it at one input. -/
def fnExtAddedWrong : ChangeSpec := { name := "fnExtAdded", fn := fun _ => fun
  | [d1, d2] => { results := [.lit (.bool false)], args := [d1, d2] }
  | _ => none }
def FnExtAddedWrongFalsely : Prop := fnExtAddedRow.holds Try.pinned (OpenSpec.ofChange fnExtAddedWrong)

/-- 'laws.FnDirOfClean': WHATEVER THE INPUT: true; the input reads as it did. -/
def fnDirOfCleanSpec : ChangeSpec := { name := "fnDirOfClean", fn := fun _ => fun
  | [d] => { results := [.lit (.bool true)], args := [d] }
  | _ => none }
def fnDirOfCleanRow : OpenClaim := { program := "ytflkalhidikhaaa", sum := "98a286c2d8d346511de52845e78383188871cfd411062637efc35e6426cd6d4b", func := "lib-waymark/laws.FnDirOfClean", spec := "fnDirOfClean", apart := false }
def FnDirOfCleanSaid : Prop := fnDirOfCleanRow.holds Try.pinned (OpenSpec.ofChange fnDirOfCleanSpec)

/-- ITS FALSE NEIGHBOUR: 'it returns false'. Refute it at one input. -/
def fnDirOfCleanWrong : ChangeSpec := { name := "fnDirOfClean", fn := fun _ => fun
  | [d] => { results := [.lit (.bool false)], args := [d] }
  | _ => none }
def FnDirOfCleanWrongFalsely : Prop := fnDirOfCleanRow.holds Try.pinned (OpenSpec.ofChange fnDirOfCleanWrong)

/-- 'laws.FnExtForm': WHATEVER THE INPUT: true; the input reads as it did. -/
def fnExtFormSpec : ChangeSpec := { name := "fnExtForm", fn := fun _ => fun
  | [d] => { results := [.lit (.bool true)], args := [d] }
  | _ => none }
def fnExtFormRow : OpenClaim := { program := "ytflkalhidikhaaa", sum := "98a286c2d8d346511de52845e78383188871cfd411062637efc35e6426cd6d4b", func := "lib-waymark/laws.FnExtForm", spec := "fnExtForm", inPlace := ["internal/bytealg.IndexByteString", "internal/bytealg.IndexString"], named := ["internal/bytealg.MaxLen"], apart := false }
def FnExtFormSaid : Prop := fnExtFormRow.holds Try.pinned (OpenSpec.ofChange fnExtFormSpec)

/-- ITS FALSE NEIGHBOUR: 'it returns false'. Refute it at one input. -/
def fnExtFormWrong : ChangeSpec := { name := "fnExtForm", fn := fun _ => fun
  | [d] => { results := [.lit (.bool false)], args := [d] }
  | _ => none }
def FnExtFormWrongFalsely : Prop := fnExtFormRow.holds Try.pinned (OpenSpec.ofChange fnExtFormWrong)

/-- 'laws.FnCleanWithin': WHATEVER THE INPUT: true; the input reads as it did. -/
def fnCleanWithinSpec : ChangeSpec := { name := "fnCleanWithin", fn := fun _ => fun
  | [d1, d2] => { results := [.lit (.bool true)], args := [d1, d2] }
  | _ => none }
def fnCleanWithinRow : OpenClaim := { program := "ytflkalhidikhaaa", sum := "98a286c2d8d346511de52845e78383188871cfd411062637efc35e6426cd6d4b", func := "lib-waymark/laws.FnCleanWithin", spec := "fnCleanWithin", inPlace := ["internal/bytealg.CountString", "internal/bytealg.IndexByteString", "internal/bytealg.IndexString"], named := ["internal/bytealg.MaxLen"], apart := false }
def FnCleanWithinSaid : Prop := fnCleanWithinRow.holds Try.pinned (OpenSpec.ofChange fnCleanWithinSpec)

/-- ITS FALSE NEIGHBOUR: 'it returns false'. Refute it at one input. -/
def fnCleanWithinWrong : ChangeSpec := { name := "fnCleanWithin", fn := fun _ => fun
  | [d1, d2] => { results := [.lit (.bool false)], args := [d1, d2] }
  | _ => none }
def FnCleanWithinWrongFalsely : Prop := fnCleanWithinRow.holds Try.pinned (OpenSpec.ofChange fnCleanWithinWrong)

/-- 'laws.FnSlashesDoNotMatter': WHATEVER THE INPUT: true; the input reads as it did. -/
def fnSlashesDoNotMatterSpec : ChangeSpec := { name := "fnSlashesDoNotMatter", fn := fun _ => fun
  | [d1, d2] => { results := [.lit (.bool true)], args := [d1, d2] }
  | _ => none }
def fnSlashesDoNotMatterRow : OpenClaim := { program := "ytflkalhidikhaaa", sum := "98a286c2d8d346511de52845e78383188871cfd411062637efc35e6426cd6d4b", func := "lib-waymark/laws.FnSlashesDoNotMatter", spec := "fnSlashesDoNotMatter", inPlace := ["internal/bytealg.CountString", "internal/bytealg.IndexByteString", "internal/bytealg.IndexString"], named := ["internal/bytealg.MaxLen"], apart := false }
def FnSlashesDoNotMatterSaid : Prop := fnSlashesDoNotMatterRow.holds Try.pinned (OpenSpec.ofChange fnSlashesDoNotMatterSpec)

/-- ITS FALSE NEIGHBOUR: 'it returns false'. Refute it at one input. -/
def fnSlashesDoNotMatterWrong : ChangeSpec := { name := "fnSlashesDoNotMatter", fn := fun _ => fun
  | [d1, d2] => { results := [.lit (.bool false)], args := [d1, d2] }
  | _ => none }
def FnSlashesDoNotMatterWrongFalsely : Prop := fnSlashesDoNotMatterRow.holds Try.pinned (OpenSpec.ofChange fnSlashesDoNotMatterWrong)

/-- 'laws.FnDotsDoNotMatter': WHATEVER THE INPUT: true; the input reads as it did. -/
def fnDotsDoNotMatterSpec : ChangeSpec := { name := "fnDotsDoNotMatter", fn := fun _ => fun
  | [d1, d2, d3] => { results := [.lit (.bool true)], args := [d1, d2, d3] }
  | _ => none }
def fnDotsDoNotMatterRow : OpenClaim := { program := "ytflkalhidikhaaa", sum := "98a286c2d8d346511de52845e78383188871cfd411062637efc35e6426cd6d4b", func := "lib-waymark/laws.FnDotsDoNotMatter", spec := "fnDotsDoNotMatter", inPlace := ["internal/bytealg.IndexByteString", "internal/bytealg.IndexString", "internal/bytealg.CountString"], named := ["internal/bytealg.MaxLen"], apart := false }
def FnDotsDoNotMatterSaid : Prop := fnDotsDoNotMatterRow.holds Try.pinned (OpenSpec.ofChange fnDotsDoNotMatterSpec)

/-- ITS FALSE NEIGHBOUR: 'it returns false'. Refute it at one input. -/
def fnDotsDoNotMatterWrong : ChangeSpec := { name := "fnDotsDoNotMatter", fn := fun _ => fun
  | [d1, d2, d3] => { results := [.lit (.bool false)], args := [d1, d2, d3] }
  | _ => none }
def FnDotsDoNotMatterWrongFalsely : Prop := fnDotsDoNotMatterRow.holds Try.pinned (OpenSpec.ofChange fnDotsDoNotMatterWrong)

/-- 'laws.FnJoinOfPieces': WHATEVER THE INPUT: true; the input reads as it did. -/
def fnJoinOfPiecesSpec : ChangeSpec := { name := "fnJoinOfPieces", fn := fun _ => fun
  | [d1, d2] => { results := [.lit (.bool true)], args := [d1, d2] }
  | _ => none }
def fnJoinOfPiecesRow : OpenClaim := { program := "ytflkalhidikhaaa", sum := "98a286c2d8d346511de52845e78383188871cfd411062637efc35e6426cd6d4b", func := "lib-waymark/laws.FnJoinOfPieces", spec := "fnJoinOfPieces", inPlace := ["internal/bytealg.CountString", "internal/bytealg.IndexByteString", "internal/bytealg.IndexString"], named := ["internal/bytealg.MaxLen"], apart := false }
def FnJoinOfPiecesSaid : Prop := fnJoinOfPiecesRow.holds Try.pinned (OpenSpec.ofChange fnJoinOfPiecesSpec)

/-- ITS FALSE NEIGHBOUR: 'it returns false'. Refute it at one input. -/
def fnJoinOfPiecesWrong : ChangeSpec := { name := "fnJoinOfPieces", fn := fun _ => fun
  | [d1, d2] => { results := [.lit (.bool false)], args := [d1, d2] }
  | _ => none }
def FnJoinOfPiecesWrongFalsely : Prop := fnJoinOfPiecesRow.holds Try.pinned (OpenSpec.ofChange fnJoinOfPiecesWrong)

/- THE SECOND FORM. 'bulk': how many values and letters a reading holds, each counted each time it is reached (what is shared counts as often as it is met; a slice's spare places count too). A statement '..UptoSaid' is the law's where the arguments, and the package variables that the reading takes, are together of bulk at most 1048576: NARROWER than '..Said'. Prove '..Said' where nothing that the law and all that it calls make is longer than what came in: it says more and counts as full. Else prove '..UptoSaid'. A law counts once. -/
mutual
def uptoBulk {H : Type} : DataW H → Nat
  | .lit (.string bytes) => bytes.length + 1
  | .lit _ => 1
  | .nil => 1
  | .ptr d => uptoBulk d + 1
  | .slice elems spare => uptoBulkAll elems + uptoBulkAll spare + 1
  | .agg parts => uptoBulkAll parts + 1
  | .iface _ d => uptoBulk d + 1
  | .map entries => uptoBulkEntries entries + 1
  | .held _ => 1
def uptoBulkAll {H : Type} : List (DataW H) → Nat
  | [] => 0
  | d :: r => uptoBulk d + uptoBulkAll r
def uptoBulkEntries {H : Type} : List (Lit × DataW H) → Nat
  | [] => 0
  | x :: r => uptoBulkEntry x + uptoBulkEntries r
def uptoBulkEntry {H : Type} : Lit × DataW H → Nat
  | (.string bytes, d) => bytes.length + uptoBulk d + 1
  | (_, d) => uptoBulk d + 1
 end
def uptoSmall : (H : Type) → List (DataW H) → Bool := fun _ ds => decide (uptoBulkAll ds ≤ 1048576)
def OpenSpec.upto (s : _root_.Go.ChangeSpec) : _root_.Go.OpenSpec := { _root_.Go.OpenSpec.ofChange s with cond := some uptoSmall }

/-- 'laws.FnSplitJoins', WHERE WHAT IT READS IS OF BULK AT MOST 1048576: true; the input reads as it did. -/
def fnSplitJoinsUptoRow : OpenClaim := { program := "ytflkalhidikhaaa", sum := "98a286c2d8d346511de52845e78383188871cfd411062637efc35e6426cd6d4b", func := "lib-waymark/laws.FnSplitJoins", spec := "fnSplitJoins", inPlace := ["internal/bytealg.IndexByteString", "internal/bytealg.IndexString"], named := ["internal/bytealg.MaxLen"], apart := false, narrowed := true }
def FnSplitJoinsUptoSaid : Prop := fnSplitJoinsUptoRow.holds Try.pinned (OpenSpec.upto fnSplitJoinsSpec)

/-- 'laws.FnSplitUndoes', WHERE WHAT IT READS IS OF BULK AT MOST 1048576: true; the input reads as it did. -/
def fnSplitUndoesUptoRow : OpenClaim := { program := "ytflkalhidikhaaa", sum := "98a286c2d8d346511de52845e78383188871cfd411062637efc35e6426cd6d4b", func := "lib-waymark/laws.FnSplitUndoes", spec := "fnSplitUndoes", inPlace := ["internal/bytealg.IndexByteString", "internal/bytealg.IndexString"], named := ["internal/bytealg.MaxLen"], apart := false, narrowed := true }
def FnSplitUndoesUptoSaid : Prop := fnSplitUndoesUptoRow.holds Try.pinned (OpenSpec.upto fnSplitUndoesSpec)

/-- 'laws.FnBaseForm', WHERE WHAT IT READS IS OF BULK AT MOST 1048576: true; the input reads as it did. -/
def fnBaseFormUptoRow : OpenClaim := { program := "ytflkalhidikhaaa", sum := "98a286c2d8d346511de52845e78383188871cfd411062637efc35e6426cd6d4b", func := "lib-waymark/laws.FnBaseForm", spec := "fnBaseForm", inPlace := ["internal/bytealg.IndexByteString", "internal/bytealg.IndexString"], named := ["internal/bytealg.MaxLen"], apart := false, narrowed := true }
def FnBaseFormUptoSaid : Prop := fnBaseFormUptoRow.holds Try.pinned (OpenSpec.upto fnBaseFormSpec)

/-- 'laws.FnIsAbsByJoin', WHERE WHAT IT READS IS OF BULK AT MOST 1048576: true; the input reads as it did. -/
def fnIsAbsByJoinUptoRow : OpenClaim := { program := "ytflkalhidikhaaa", sum := "98a286c2d8d346511de52845e78383188871cfd411062637efc35e6426cd6d4b", func := "lib-waymark/laws.FnIsAbsByJoin", spec := "fnIsAbsByJoin", inPlace := ["internal/abi.NoEscape", "internal/bytealg.MakeNoZero"], apart := false, narrowed := true }
def FnIsAbsByJoinUptoSaid : Prop := fnIsAbsByJoinUptoRow.holds Try.pinned (OpenSpec.upto fnIsAbsByJoinSpec)

/-- 'laws.FnExtAdded', WHERE WHAT IT READS IS OF BULK AT MOST 1048576: true; the input reads as it did. -/
def fnExtAddedUptoRow : OpenClaim := { program := "ytflkalhidikhaaa", sum := "98a286c2d8d346511de52845e78383188871cfd411062637efc35e6426cd6d4b", func := "lib-waymark/laws.FnExtAdded", spec := "fnExtAdded", inPlace := ["internal/bytealg.IndexByteString", "internal/bytealg.IndexString"], named := ["internal/bytealg.MaxLen"], apart := false, narrowed := true }
def FnExtAddedUptoSaid : Prop := fnExtAddedUptoRow.holds Try.pinned (OpenSpec.upto fnExtAddedSpec)

/-- 'laws.FnDirOfClean', WHERE WHAT IT READS IS OF BULK AT MOST 1048576: true; the input reads as it did. -/
def fnDirOfCleanUptoRow : OpenClaim := { program := "ytflkalhidikhaaa", sum := "98a286c2d8d346511de52845e78383188871cfd411062637efc35e6426cd6d4b", func := "lib-waymark/laws.FnDirOfClean", spec := "fnDirOfClean", apart := false, narrowed := true }
def FnDirOfCleanUptoSaid : Prop := fnDirOfCleanUptoRow.holds Try.pinned (OpenSpec.upto fnDirOfCleanSpec)

/-- 'laws.FnExtForm', WHERE WHAT IT READS IS OF BULK AT MOST 1048576: true; the input reads as it did. -/
def fnExtFormUptoRow : OpenClaim := { program := "ytflkalhidikhaaa", sum := "98a286c2d8d346511de52845e78383188871cfd411062637efc35e6426cd6d4b", func := "lib-waymark/laws.FnExtForm", spec := "fnExtForm", inPlace := ["internal/bytealg.IndexByteString", "internal/bytealg.IndexString"], named := ["internal/bytealg.MaxLen"], apart := false, narrowed := true }
def FnExtFormUptoSaid : Prop := fnExtFormUptoRow.holds Try.pinned (OpenSpec.upto fnExtFormSpec)

/-- 'laws.FnCleanWithin', WHERE WHAT IT READS IS OF BULK AT MOST 1048576: true; the input reads as it did. -/
def fnCleanWithinUptoRow : OpenClaim := { program := "ytflkalhidikhaaa", sum := "98a286c2d8d346511de52845e78383188871cfd411062637efc35e6426cd6d4b", func := "lib-waymark/laws.FnCleanWithin", spec := "fnCleanWithin", inPlace := ["internal/bytealg.CountString", "internal/bytealg.IndexByteString", "internal/bytealg.IndexString"], named := ["internal/bytealg.MaxLen"], apart := false, narrowed := true }
def FnCleanWithinUptoSaid : Prop := fnCleanWithinUptoRow.holds Try.pinned (OpenSpec.upto fnCleanWithinSpec)

/-- 'laws.FnSlashesDoNotMatter', WHERE WHAT IT READS IS OF BULK AT MOST 1048576: true; the input reads as it did. -/
def fnSlashesDoNotMatterUptoRow : OpenClaim := { program := "ytflkalhidikhaaa", sum := "98a286c2d8d346511de52845e78383188871cfd411062637efc35e6426cd6d4b", func := "lib-waymark/laws.FnSlashesDoNotMatter", spec := "fnSlashesDoNotMatter", inPlace := ["internal/bytealg.CountString", "internal/bytealg.IndexByteString", "internal/bytealg.IndexString"], named := ["internal/bytealg.MaxLen"], apart := false, narrowed := true }
def FnSlashesDoNotMatterUptoSaid : Prop := fnSlashesDoNotMatterUptoRow.holds Try.pinned (OpenSpec.upto fnSlashesDoNotMatterSpec)

/-- 'laws.FnDotsDoNotMatter', WHERE WHAT IT READS IS OF BULK AT MOST 1048576: true; the input reads as it did. -/
def fnDotsDoNotMatterUptoRow : OpenClaim := { program := "ytflkalhidikhaaa", sum := "98a286c2d8d346511de52845e78383188871cfd411062637efc35e6426cd6d4b", func := "lib-waymark/laws.FnDotsDoNotMatter", spec := "fnDotsDoNotMatter", inPlace := ["internal/bytealg.IndexByteString", "internal/bytealg.IndexString", "internal/bytealg.CountString"], named := ["internal/bytealg.MaxLen"], apart := false, narrowed := true }
def FnDotsDoNotMatterUptoSaid : Prop := fnDotsDoNotMatterUptoRow.holds Try.pinned (OpenSpec.upto fnDotsDoNotMatterSpec)

/-- 'laws.FnJoinOfPieces', WHERE WHAT IT READS IS OF BULK AT MOST 1048576: true; the input reads as it did. -/
def fnJoinOfPiecesUptoRow : OpenClaim := { program := "ytflkalhidikhaaa", sum := "98a286c2d8d346511de52845e78383188871cfd411062637efc35e6426cd6d4b", func := "lib-waymark/laws.FnJoinOfPieces", spec := "fnJoinOfPieces", inPlace := ["internal/bytealg.CountString", "internal/bytealg.IndexByteString", "internal/bytealg.IndexString"], named := ["internal/bytealg.MaxLen"], apart := false, narrowed := true }
def FnJoinOfPiecesUptoSaid : Prop := fnJoinOfPiecesUptoRow.holds Try.pinned (OpenSpec.upto fnJoinOfPiecesSpec)

end Rows
end Go.Proofs.Ytflkalhidikhaaa
