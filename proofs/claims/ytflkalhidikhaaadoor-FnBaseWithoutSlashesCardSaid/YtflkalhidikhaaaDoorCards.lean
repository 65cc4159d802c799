/-
  DERIVED. GIVEN WITH THE SEED: THE CARDS: each row of YtflkalhidikhaaaDoorRows.lean that lists a variable, with what it lists TIED to the program's text (the seventh form; the later family's looks); each row that meets fmt, with fmt's text TOLD by the authors' own Lean function (tested against real Go, not proved from fmt's source: count such statements apart). THE CARD IS WHAT COUNTS. Prove the row's statement (the work); the ties are given (YtflkalhidikhaaaDoorTie.lean); close each card by the builder's one call (the guide's Derived/Test/ToyasCard.lean, 'card_holds'). Laid BY PROGRAM, IN A SANDBOX (cutbox-door.mjs). By AI agents, Wed Nov 11 2026. No macro, syntax, notation, axiom, sorry.
-/
import Derived.Test.YtflkalhidikhaaaDoorRows
import GoSem.ClaimSeven
namespace Go.Proofs.YtflkalhidikhaaaDoor
namespace Rows

/-- THE TIED CARD OF 'laws.FnBaseWithoutSlashes'. -/
def fnBaseWithoutSlashesCard : Claim7 := { stood := { row := fnBaseWithoutSlashesRow, standIns := [], harness := (true, "0ea61574c602ba781f0ef0f021996d5d2bb6d3ae4f849122491a0ad1e420948e"), looks := false }, kinds := [], alts := [], laidByText := true, laidKinds := [.data, .pinned], laidTests := true, laidLooks := .later }
def FnBaseWithoutSlashesCardSaid : Prop := Claim7.holds Tryd.pinned (.plain (OpenSpec.ofChange fnBaseWithoutSlashesSpec)) fnBaseWithoutSlashesCard

/-- THE SECOND FORM's CARD OF 'laws.FnBaseWithoutSlashes'. -/
def fnBaseWithoutSlashesUptoCard : Claim7 := { stood := { row := fnBaseWithoutSlashesUptoRow, standIns := [], harness := (true, "0ea61574c602ba781f0ef0f021996d5d2bb6d3ae4f849122491a0ad1e420948e"), looks := false }, kinds := [], alts := [], laidByText := true, laidKinds := [.data, .pinned], laidTests := true, laidLooks := .later }
def FnBaseWithoutSlashesUptoCardSaid : Prop := Claim7.holds Tryd.pinned (.plain (OpenSpec.upto fnBaseWithoutSlashesSpec)) fnBaseWithoutSlashesUptoCard
end Rows
end Go.Proofs.YtflkalhidikhaaaDoor
