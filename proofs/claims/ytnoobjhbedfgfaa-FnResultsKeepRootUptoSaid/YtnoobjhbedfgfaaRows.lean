/-
  No cell of these rows narrows 'for every input' (looked for: loops, veiled, ifaces, maps, wideKeys, modest, calm, conditions, laid).
  DERIVED. THE GIVEN ROWS OF THIS SEAT. 12 by the template 'for every input the law returns true; each argument reads behind the call as it read before'; 0 by the template 'total and deterministic' (their statements: YtnoobjhbedfgfaaTotals.lean).
  GIVEN WITH THE SEED: the statements are not yours to turn. If you find one false, say at which input.
  Laid BY PROGRAM, IN A SANDBOX (cutbox-rows.mjs): the forced cells as the released guide's own fill.sh prints them over the translation 08649ec704ab25b0… (all of the seat's roots in one cut). By AI agents, Wed Nov 11 2026. No macro, syntax, notation, axiom, sorry.
-/
import Derived.Test.YtnoobjhbedfgfaaChecked
import GoSem.Claim
import GoSem.ClaimJoined
import GoSem.ClaimMapViews
import Derived.JoinedTies
import Derived.KernelRfl
namespace Go.Proofs.Ytnoobjhbedfgfaa
/- THE CELL 'sum', in the pinned program and in every row, IS THE sha256 OF THE DUMP (.gsa) THAT YtnoobjhbedfgfaaProg.lean LOADS. Nothing in Lean hashes anything: it is a label: what it is worth is what the hold of that sum in a sandbox is worth. -/
noncomputable def Try.pinned : Pinned := { name := "ytnoobjhbedfgfaa", sum := "08649ec704ab25b05651030f330ab081e5c444949dcf1db6f7da7d636a35324a", checked := Try.checked }
namespace Rows
def none {H : Type} : Left H := { results := [], args := [] }

/-- 'laws.FnIsAbs': WHATEVER THE INPUT: true; the input reads as it did. -/
def fnIsAbsSpec : ChangeSpec := { name := "fnIsAbs", fn := fun _ => fun
  | [d] => { results := [.lit (.bool true)], args := [d] }
  | _ => none }
def fnIsAbsRow : OpenClaim := { program := "ytnoobjhbedfgfaa", sum := "08649ec704ab25b05651030f330ab081e5c444949dcf1db6f7da7d636a35324a", func := "lib-waymark/laws.FnIsAbs", spec := "fnIsAbs", apart := false }
def FnIsAbsSaid : Prop := fnIsAbsRow.holds Try.pinned (OpenSpec.ofChange fnIsAbsSpec)

/-- ITS FALSE NEIGHBOUR: 'it returns false'. Refute it at one input. -/
def fnIsAbsWrong : ChangeSpec := { name := "fnIsAbs", fn := fun _ => fun
  | [d] => { results := [.lit (.bool false)], args := [d] }
  | _ => none }
def FnIsAbsWrongFalsely : Prop := fnIsAbsRow.holds Try.pinned (OpenSpec.ofChange fnIsAbsWrong)

/-- 'laws.FnSplitAgain': WHATEVER THE INPUT: true; the input reads as it did. -/
def fnSplitAgainSpec : ChangeSpec := { name := "fnSplitAgain", fn := fun _ => fun
  | [d] => { results := [.lit (.bool true)], args := [d] }
  | _ => none }
def fnSplitAgainRow : OpenClaim := { program := "ytnoobjhbedfgfaa", sum := "08649ec704ab25b05651030f330ab081e5c444949dcf1db6f7da7d636a35324a", func := "lib-waymark/laws.FnSplitAgain", spec := "fnSplitAgain", apart := false }
def FnSplitAgainSaid : Prop := fnSplitAgainRow.holds Try.pinned (OpenSpec.ofChange fnSplitAgainSpec)

/-- ITS FALSE NEIGHBOUR: 'it returns false'. Refute it at one input. -/
def fnSplitAgainWrong : ChangeSpec := { name := "fnSplitAgain", fn := fun _ => fun
  | [d] => { results := [.lit (.bool false)], args := [d] }
  | _ => none }
def FnSplitAgainWrongFalsely : Prop := fnSplitAgainRow.holds Try.pinned (OpenSpec.ofChange fnSplitAgainWrong)

/-- 'laws.FnBaseBySplit': WHATEVER THE INPUT: true; the input reads as it did. -/
def fnBaseBySplitSpec : ChangeSpec := { name := "fnBaseBySplit", fn := fun _ => fun
  | [d] => { results := [.lit (.bool true)], args := [d] }
  | _ => none }
def fnBaseBySplitRow : OpenClaim := { program := "ytnoobjhbedfgfaa", sum := "08649ec704ab25b05651030f330ab081e5c444949dcf1db6f7da7d636a35324a", func := "lib-waymark/laws.FnBaseBySplit", spec := "fnBaseBySplit", apart := false }
def FnBaseBySplitSaid : Prop := fnBaseBySplitRow.holds Try.pinned (OpenSpec.ofChange fnBaseBySplitSpec)

/-- ITS FALSE NEIGHBOUR: 'it returns false'. Refute it at one input. -/
def fnBaseBySplitWrong : ChangeSpec := { name := "fnBaseBySplit", fn := fun _ => fun
  | [d] => { results := [.lit (.bool false)], args := [d] }
  | _ => none }
def FnBaseBySplitWrongFalsely : Prop := fnBaseBySplitRow.holds Try.pinned (OpenSpec.ofChange fnBaseBySplitWrong)

/-- 'laws.FnExtIsThatOfBase': WHATEVER THE INPUT: true; the input reads as it did. -/
def fnExtIsThatOfBaseSpec : ChangeSpec := { name := "fnExtIsThatOfBase", fn := fun _ => fun
  | [d] => { results := [.lit (.bool true)], args := [d] }
  | _ => none }
def fnExtIsThatOfBaseRow : OpenClaim := { program := "ytnoobjhbedfgfaa", sum := "08649ec704ab25b05651030f330ab081e5c444949dcf1db6f7da7d636a35324a", func := "lib-waymark/laws.FnExtIsThatOfBase", spec := "fnExtIsThatOfBase", apart := false }
def FnExtIsThatOfBaseSaid : Prop := fnExtIsThatOfBaseRow.holds Try.pinned (OpenSpec.ofChange fnExtIsThatOfBaseSpec)

/-- ITS FALSE NEIGHBOUR: 'it returns false'. Refute it at one input. -/
def fnExtIsThatOfBaseWrong : ChangeSpec := { name := "fnExtIsThatOfBase", fn := fun _ => fun
  | [d] => { results := [.lit (.bool false)], args := [d] }
  | _ => none }
def FnExtIsThatOfBaseWrongFalsely : Prop := fnExtIsThatOfBaseRow.holds Try.pinned (OpenSpec.ofChange fnExtIsThatOfBaseWrong)

/-- 'laws.FnCleanIsNotLonger': WHATEVER THE INPUT: true; the input reads as it did. -/
def fnCleanIsNotLongerSpec : ChangeSpec := { name := "fnCleanIsNotLonger", fn := fun _ => fun
  | [d] => { results := [.lit (.bool true)], args := [d] }
  | _ => none }
def fnCleanIsNotLongerRow : OpenClaim := { program := "ytnoobjhbedfgfaa", sum := "08649ec704ab25b05651030f330ab081e5c444949dcf1db6f7da7d636a35324a", func := "lib-waymark/laws.FnCleanIsNotLonger", spec := "fnCleanIsNotLonger", apart := false }
def FnCleanIsNotLongerSaid : Prop := fnCleanIsNotLongerRow.holds Try.pinned (OpenSpec.ofChange fnCleanIsNotLongerSpec)

/-- ITS FALSE NEIGHBOUR: 'it returns false'. Refute it at one input. -/
def fnCleanIsNotLongerWrong : ChangeSpec := { name := "fnCleanIsNotLonger", fn := fun _ => fun
  | [d] => { results := [.lit (.bool false)], args := [d] }
  | _ => none }
def FnCleanIsNotLongerWrongFalsely : Prop := fnCleanIsNotLongerRow.holds Try.pinned (OpenSpec.ofChange fnCleanIsNotLongerWrong)

/-- 'laws.FnCleanOnce': WHATEVER THE INPUT: true; the input reads as it did. -/
def fnCleanOnceSpec : ChangeSpec := { name := "fnCleanOnce", fn := fun _ => fun
  | [d] => { results := [.lit (.bool true)], args := [d] }
  | _ => none }
def fnCleanOnceRow : OpenClaim := { program := "ytnoobjhbedfgfaa", sum := "08649ec704ab25b05651030f330ab081e5c444949dcf1db6f7da7d636a35324a", func := "lib-waymark/laws.FnCleanOnce", spec := "fnCleanOnce", apart := false }
def FnCleanOnceSaid : Prop := fnCleanOnceRow.holds Try.pinned (OpenSpec.ofChange fnCleanOnceSpec)

/-- ITS FALSE NEIGHBOUR: 'it returns false'. Refute it at one input. -/
def fnCleanOnceWrong : ChangeSpec := { name := "fnCleanOnce", fn := fun _ => fun
  | [d] => { results := [.lit (.bool false)], args := [d] }
  | _ => none }
def FnCleanOnceWrongFalsely : Prop := fnCleanOnceRow.holds Try.pinned (OpenSpec.ofChange fnCleanOnceWrong)

/-- 'laws.FnCleanKeepsRoot': WHATEVER THE INPUT: true; the input reads as it did. -/
def fnCleanKeepsRootSpec : ChangeSpec := { name := "fnCleanKeepsRoot", fn := fun _ => fun
  | [d] => { results := [.lit (.bool true)], args := [d] }
  | _ => none }
def fnCleanKeepsRootRow : OpenClaim := { program := "ytnoobjhbedfgfaa", sum := "08649ec704ab25b05651030f330ab081e5c444949dcf1db6f7da7d636a35324a", func := "lib-waymark/laws.FnCleanKeepsRoot", spec := "fnCleanKeepsRoot", apart := false }
def FnCleanKeepsRootSaid : Prop := fnCleanKeepsRootRow.holds Try.pinned (OpenSpec.ofChange fnCleanKeepsRootSpec)

/-- ITS FALSE NEIGHBOUR: 'it returns false'. Refute it at one input. -/
def fnCleanKeepsRootWrong : ChangeSpec := { name := "fnCleanKeepsRoot", fn := fun _ => fun
  | [d] => { results := [.lit (.bool false)], args := [d] }
  | _ => none }
def FnCleanKeepsRootWrongFalsely : Prop := fnCleanKeepsRootRow.holds Try.pinned (OpenSpec.ofChange fnCleanKeepsRootWrong)

/-- 'laws.FnJoinOfOne': WHATEVER THE INPUT: true; the input reads as it did. -/
def fnJoinOfOneSpec : ChangeSpec := { name := "fnJoinOfOne", fn := fun _ => fun
  | [d1, d2] => { results := [.lit (.bool true)], args := [d1, d2] }
  | _ => none }
def fnJoinOfOneRow : OpenClaim := { program := "ytnoobjhbedfgfaa", sum := "08649ec704ab25b05651030f330ab081e5c444949dcf1db6f7da7d636a35324a", func := "lib-waymark/laws.FnJoinOfOne", spec := "fnJoinOfOne", apart := false }
def FnJoinOfOneSaid : Prop := fnJoinOfOneRow.holds Try.pinned (OpenSpec.ofChange fnJoinOfOneSpec)

/-- ITS FALSE NEIGHBOUR: 'it returns false'. Refute it at one input. -/
def fnJoinOfOneWrong : ChangeSpec := { name := "fnJoinOfOne", fn := fun _ => fun
  | [d1, d2] => { results := [.lit (.bool false)], args := [d1, d2] }
  | _ => none }
def FnJoinOfOneWrongFalsely : Prop := fnJoinOfOneRow.holds Try.pinned (OpenSpec.ofChange fnJoinOfOneWrong)

/-- 'laws.FnDirBySplit': WHATEVER THE INPUT: true; the input reads as it did. -/
def fnDirBySplitSpec : ChangeSpec := { name := "fnDirBySplit", fn := fun _ => fun
  | [d] => { results := [.lit (.bool true)], args := [d] }
  | _ => none }
def fnDirBySplitRow : OpenClaim := { program := "ytnoobjhbedfgfaa", sum := "08649ec704ab25b05651030f330ab081e5c444949dcf1db6f7da7d636a35324a", func := "lib-waymark/laws.FnDirBySplit", spec := "fnDirBySplit", apart := false }
def FnDirBySplitSaid : Prop := fnDirBySplitRow.holds Try.pinned (OpenSpec.ofChange fnDirBySplitSpec)

/-- ITS FALSE NEIGHBOUR: 'it returns false'. Refute it at one input. -/
def fnDirBySplitWrong : ChangeSpec := { name := "fnDirBySplit", fn := fun _ => fun
  | [d] => { results := [.lit (.bool false)], args := [d] }
  | _ => none }
def FnDirBySplitWrongFalsely : Prop := fnDirBySplitRow.holds Try.pinned (OpenSpec.ofChange fnDirBySplitWrong)

/-- 'laws.FnDirEnds': WHATEVER THE INPUT: true; the input reads as it did. -/
def fnDirEndsSpec : ChangeSpec := { name := "fnDirEnds", fn := fun _ => fun
  | [d] => { results := [.lit (.bool true)], args := [d] }
  | _ => none }
def fnDirEndsRow : OpenClaim := { program := "ytnoobjhbedfgfaa", sum := "08649ec704ab25b05651030f330ab081e5c444949dcf1db6f7da7d636a35324a", func := "lib-waymark/laws.FnDirEnds", spec := "fnDirEnds", apart := false }
def FnDirEndsSaid : Prop := fnDirEndsRow.holds Try.pinned (OpenSpec.ofChange fnDirEndsSpec)

/-- ITS FALSE NEIGHBOUR: 'it returns false'. Refute it at one input. -/
def fnDirEndsWrong : ChangeSpec := { name := "fnDirEnds", fn := fun _ => fun
  | [d] => { results := [.lit (.bool false)], args := [d] }
  | _ => none }
def FnDirEndsWrongFalsely : Prop := fnDirEndsRow.holds Try.pinned (OpenSpec.ofChange fnDirEndsWrong)

/-- 'laws.FnJoinIsAbsAsItsFirst': WHATEVER THE INPUT: true; the input reads as it did. -/
def fnJoinIsAbsAsItsFirstSpec : ChangeSpec := { name := "fnJoinIsAbsAsItsFirst", fn := fun _ => fun
  | [d] => { results := [.lit (.bool true)], args := [d] }
  | _ => none }
def fnJoinIsAbsAsItsFirstRow : OpenClaim := { program := "ytnoobjhbedfgfaa", sum := "08649ec704ab25b05651030f330ab081e5c444949dcf1db6f7da7d636a35324a", func := "lib-waymark/laws.FnJoinIsAbsAsItsFirst", spec := "fnJoinIsAbsAsItsFirst", apart := false }
def FnJoinIsAbsAsItsFirstSaid : Prop := fnJoinIsAbsAsItsFirstRow.holds Try.pinned (OpenSpec.ofChange fnJoinIsAbsAsItsFirstSpec)

/-- ITS FALSE NEIGHBOUR: 'it returns false'. Refute it at one input. -/
def fnJoinIsAbsAsItsFirstWrong : ChangeSpec := { name := "fnJoinIsAbsAsItsFirst", fn := fun _ => fun
  | [d] => { results := [.lit (.bool false)], args := [d] }
  | _ => none }
def FnJoinIsAbsAsItsFirstWrongFalsely : Prop := fnJoinIsAbsAsItsFirstRow.holds Try.pinned (OpenSpec.ofChange fnJoinIsAbsAsItsFirstWrong)

/-- 'laws.FnResultsKeepRoot': WHATEVER THE INPUT: true; the input reads as it did. -/
def fnResultsKeepRootSpec : ChangeSpec := { name := "fnResultsKeepRoot", fn := fun _ => fun
  | [d1, d2] => { results := [.lit (.bool true)], args := [d1, d2] }
  | _ => none }
def fnResultsKeepRootRow : OpenClaim := { program := "ytnoobjhbedfgfaa", sum := "08649ec704ab25b05651030f330ab081e5c444949dcf1db6f7da7d636a35324a", func := "lib-waymark/laws.FnResultsKeepRoot", spec := "fnResultsKeepRoot", apart := false }
def FnResultsKeepRootSaid : Prop := fnResultsKeepRootRow.holds Try.pinned (OpenSpec.ofChange fnResultsKeepRootSpec)

/-- ITS FALSE NEIGHBOUR: 'it returns false'. Refute it at one input. -/
def fnResultsKeepRootWrong : ChangeSpec := { name := "fnResultsKeepRoot", fn := fun _ => fun
  | [d1, d2] => { results := [.lit (.bool false)], args := [d1, d2] }
  | _ => none }
def FnResultsKeepRootWrongFalsely : Prop := fnResultsKeepRootRow.holds Try.pinned (OpenSpec.ofChange fnResultsKeepRootWrong)

/- THE SECOND FORM. 'bulk': how many values and letters a reading holds, each counted each time it is reached (what is shared counts as often as it is met; a slice's spare places count too). A statement '..UptoSaid' is the law's where the arguments, and the package variables that the reading takes, are together of bulk at most 1048576: NARROWER than '..Said'. Prove '..Said' where nothing that the law and all that it calls make is longer than what came in: it says more and counts as full. Else prove '..UptoSaid'. A law counts once. -/
mutual
def uptoBulk {H : Type} : DataW H → Nat
  | .lit (.string bytes) => bytes.length + 1
  | .lit _ => 1
  | .nil => 1
  | .ptr d => uptoBulk d + 1
  | .slice elems spare => uptoBulkAll elems + uptoBulkAll spare + 1
  | .agg parts => uptoBulkAll parts + 1
  | .iface _ d => uptoBulk d + 1
  | .map entries => uptoBulkEntries entries + 1
  | .held _ => 1
def uptoBulkAll {H : Type} : List (DataW H) → Nat
  | [] => 0
  | d :: r => uptoBulk d + uptoBulkAll r
def uptoBulkEntries {H : Type} : List (Lit × DataW H) → Nat
  | [] => 0
  | x :: r => uptoBulkEntry x + uptoBulkEntries r
def uptoBulkEntry {H : Type} : Lit × DataW H → Nat
  | (.string bytes, d) => bytes.length + uptoBulk d + 1
  | (_, d) => uptoBulk d + 1
 end
def uptoSmall : (H : Type) → List (DataW H) → Bool := fun _ ds => decide (uptoBulkAll ds ≤ 1048576)
def OpenSpec.upto (s : _root_.Go.ChangeSpec) : _root_.Go.OpenSpec := { _root_.Go.OpenSpec.ofChange s with cond := some uptoSmall }

/-- 'laws.FnIsAbs', WHERE WHAT IT READS IS OF BULK AT MOST 1048576: true; the input reads as it did. -/
def fnIsAbsUptoRow : OpenClaim := { program := "ytnoobjhbedfgfaa", sum := "08649ec704ab25b05651030f330ab081e5c444949dcf1db6f7da7d636a35324a", func := "lib-waymark/laws.FnIsAbs", spec := "fnIsAbs", apart := false, narrowed := true }
def FnIsAbsUptoSaid : Prop := fnIsAbsUptoRow.holds Try.pinned (OpenSpec.upto fnIsAbsSpec)

/-- 'laws.FnSplitAgain', WHERE WHAT IT READS IS OF BULK AT MOST 1048576: true; the input reads as it did. -/
def fnSplitAgainUptoRow : OpenClaim := { program := "ytnoobjhbedfgfaa", sum := "08649ec704ab25b05651030f330ab081e5c444949dcf1db6f7da7d636a35324a", func := "lib-waymark/laws.FnSplitAgain", spec := "fnSplitAgain", apart := false, narrowed := true }
def FnSplitAgainUptoSaid : Prop := fnSplitAgainUptoRow.holds Try.pinned (OpenSpec.upto fnSplitAgainSpec)

/-- 'laws.FnBaseBySplit', WHERE WHAT IT READS IS OF BULK AT MOST 1048576: true; the input reads as it did. -/
def fnBaseBySplitUptoRow : OpenClaim := { program := "ytnoobjhbedfgfaa", sum := "08649ec704ab25b05651030f330ab081e5c444949dcf1db6f7da7d636a35324a", func := "lib-waymark/laws.FnBaseBySplit", spec := "fnBaseBySplit", apart := false, narrowed := true }
def FnBaseBySplitUptoSaid : Prop := fnBaseBySplitUptoRow.holds Try.pinned (OpenSpec.upto fnBaseBySplitSpec)

/-- 'laws.FnExtIsThatOfBase', WHERE WHAT IT READS IS OF BULK AT MOST 1048576: true; the input reads as it did. -/
def fnExtIsThatOfBaseUptoRow : OpenClaim := { program := "ytnoobjhbedfgfaa", sum := "08649ec704ab25b05651030f330ab081e5c444949dcf1db6f7da7d636a35324a", func := "lib-waymark/laws.FnExtIsThatOfBase", spec := "fnExtIsThatOfBase", apart := false, narrowed := true }
def FnExtIsThatOfBaseUptoSaid : Prop := fnExtIsThatOfBaseUptoRow.holds Try.pinned (OpenSpec.upto fnExtIsThatOfBaseSpec)

/-- 'laws.FnCleanIsNotLonger', WHERE WHAT IT READS IS OF BULK AT MOST 1048576: true; the input reads as it did. -/
def fnCleanIsNotLongerUptoRow : OpenClaim := { program := "ytnoobjhbedfgfaa", sum := "08649ec704ab25b05651030f330ab081e5c444949dcf1db6f7da7d636a35324a", func := "lib-waymark/laws.FnCleanIsNotLonger", spec := "fnCleanIsNotLonger", apart := false, narrowed := true }
def FnCleanIsNotLongerUptoSaid : Prop := fnCleanIsNotLongerUptoRow.holds Try.pinned (OpenSpec.upto fnCleanIsNotLongerSpec)

/-- 'laws.FnCleanOnce', WHERE WHAT IT READS IS OF BULK AT MOST 1048576: true; the input reads as it did. -/
def fnCleanOnceUptoRow : OpenClaim := { program := "ytnoobjhbedfgfaa", sum := "08649ec704ab25b05651030f330ab081e5c444949dcf1db6f7da7d636a35324a", func := "lib-waymark/laws.FnCleanOnce", spec := "fnCleanOnce", apart := false, narrowed := true }
def FnCleanOnceUptoSaid : Prop := fnCleanOnceUptoRow.holds Try.pinned (OpenSpec.upto fnCleanOnceSpec)

/-- 'laws.FnCleanKeepsRoot', WHERE WHAT IT READS IS OF BULK AT MOST 1048576: true; the input reads as it did. -/
def fnCleanKeepsRootUptoRow : OpenClaim := { program := "ytnoobjhbedfgfaa", sum := "08649ec704ab25b05651030f330ab081e5c444949dcf1db6f7da7d636a35324a", func := "lib-waymark/laws.FnCleanKeepsRoot", spec := "fnCleanKeepsRoot", apart := false, narrowed := true }
def FnCleanKeepsRootUptoSaid : Prop := fnCleanKeepsRootUptoRow.holds Try.pinned (OpenSpec.upto fnCleanKeepsRootSpec)

/-- 'laws.FnJoinOfOne', WHERE WHAT IT READS IS OF BULK AT MOST 1048576: true; the input reads as it did. -/
def fnJoinOfOneUptoRow : OpenClaim := { program := "ytnoobjhbedfgfaa", sum := "08649ec704ab25b05651030f330ab081e5c444949dcf1db6f7da7d636a35324a", func := "lib-waymark/laws.FnJoinOfOne", spec := "fnJoinOfOne", apart := false, narrowed := true }
def FnJoinOfOneUptoSaid : Prop := fnJoinOfOneUptoRow.holds Try.pinned (OpenSpec.upto fnJoinOfOneSpec)

/-- 'laws.FnDirBySplit', WHERE WHAT IT READS IS OF BULK AT MOST 1048576: true; the input reads as it did. -/
def fnDirBySplitUptoRow : OpenClaim := { program := "ytnoobjhbedfgfaa", sum := "08649ec704ab25b05651030f330ab081e5c444949dcf1db6f7da7d636a35324a", func := "lib-waymark/laws.FnDirBySplit", spec := "fnDirBySplit", apart := false, narrowed := true }
def FnDirBySplitUptoSaid : Prop := fnDirBySplitUptoRow.holds Try.pinned (OpenSpec.upto fnDirBySplitSpec)

/-- 'laws.FnDirEnds', WHERE WHAT IT READS IS OF BULK AT MOST 1048576: true; the input reads as it did. -/
def fnDirEndsUptoRow : OpenClaim := { program := "ytnoobjhbedfgfaa", sum := "08649ec704ab25b05651030f330ab081e5c444949dcf1db6f7da7d636a35324a", func := "lib-waymark/laws.FnDirEnds", spec := "fnDirEnds", apart := false, narrowed := true }
def FnDirEndsUptoSaid : Prop := fnDirEndsUptoRow.holds Try.pinned (OpenSpec.upto fnDirEndsSpec)

/-- 'laws.FnJoinIsAbsAsItsFirst', WHERE WHAT IT READS IS OF BULK AT MOST 1048576: true; the input reads as it did. -/
def fnJoinIsAbsAsItsFirstUptoRow : OpenClaim := { program := "ytnoobjhbedfgfaa", sum := "08649ec704ab25b05651030f330ab081e5c444949dcf1db6f7da7d636a35324a", func := "lib-waymark/laws.FnJoinIsAbsAsItsFirst", spec := "fnJoinIsAbsAsItsFirst", apart := false, narrowed := true }
def FnJoinIsAbsAsItsFirstUptoSaid : Prop := fnJoinIsAbsAsItsFirstUptoRow.holds Try.pinned (OpenSpec.upto fnJoinIsAbsAsItsFirstSpec)

/-- 'laws.FnResultsKeepRoot', WHERE WHAT IT READS IS OF BULK AT MOST 1048576: true; the input reads as it did. -/
def fnResultsKeepRootUptoRow : OpenClaim := { program := "ytnoobjhbedfgfaa", sum := "08649ec704ab25b05651030f330ab081e5c444949dcf1db6f7da7d636a35324a", func := "lib-waymark/laws.FnResultsKeepRoot", spec := "fnResultsKeepRoot", apart := false, narrowed := true }
def FnResultsKeepRootUptoSaid : Prop := fnResultsKeepRootUptoRow.holds Try.pinned (OpenSpec.upto fnResultsKeepRootSpec)

end Rows
end Go.Proofs.Ytnoobjhbedfgfaa
