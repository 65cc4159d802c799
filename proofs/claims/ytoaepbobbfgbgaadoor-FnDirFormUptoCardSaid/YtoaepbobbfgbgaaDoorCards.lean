/-
  DERIVED. GIVEN WITH THE SEED: THE CARDS: each row of YtoaepbobbfgbgaaDoorRows.lean that lists a variable, with what it lists TIED to the program's text (the seventh form; the later family's looks); each row that meets fmt, with fmt's text TOLD by the authors' own Lean function (tested against real Go, not proved from fmt's source: count such statements apart). THE CARD IS WHAT COUNTS. Prove the row's statement (the work); the ties are given (YtoaepbobbfgbgaaDoorTie.lean); close each card by the builder's one call (the guide's Derived/Test/ToyasCard.lean, 'card_holds'). Laid BY PROGRAM, IN A SANDBOX (cutbox-door.mjs). By AI agents, Wed Nov 11 2026. No macro, syntax, notation, axiom, sorry.
-/
import Derived.Test.YtoaepbobbfgbgaaDoorRows
import GoSem.ClaimSeven
namespace Go.Proofs.YtoaepbobbfgbgaaDoor
namespace Rows

/-- THE TIED CARD OF 'laws.FnDirForm'. -/
def fnDirFormCard : Claim7 := { stood := { row := fnDirFormRow, standIns := [], harness := (true, "1fcd01ae3059e35a22dfec836c6bf55157fff28655c6adb1d85fd67132d03846"), looks := false }, kinds := [], alts := [], laidByText := true, laidKinds := [.data, .pinned], laidTests := true, laidLooks := .later }
def FnDirFormCardSaid : Prop := Claim7.holds Tryd.pinned (.plain (OpenSpec.ofChange fnDirFormSpec)) fnDirFormCard

/-- THE SECOND FORM's CARD OF 'laws.FnDirForm'. -/
def fnDirFormUptoCard : Claim7 := { stood := { row := fnDirFormUptoRow, standIns := [], harness := (true, "1fcd01ae3059e35a22dfec836c6bf55157fff28655c6adb1d85fd67132d03846"), looks := false }, kinds := [], alts := [], laidByText := true, laidKinds := [.data, .pinned], laidTests := true, laidLooks := .later }
def FnDirFormUptoCardSaid : Prop := Claim7.holds Tryd.pinned (.plain (OpenSpec.upto fnDirFormSpec)) fnDirFormUptoCard
end Rows
end Go.Proofs.YtoaepbobbfgbgaaDoor
