/-
  DERIVED. GIVEN WITH THE SEED: THE CARDS: each row of YtgigodblbiiahaaDoorRows.lean that lists a variable, with what it lists TIED to the program's text (the seventh form; the later family's looks); each row that meets fmt, with fmt's text TOLD by the authors' own Lean function (tested against real Go, not proved from fmt's source: count such statements apart). THE CARD IS WHAT COUNTS. Prove the row's statement (the work); the ties are given (YtgigodblbiiahaaDoorTie.lean); close each card by the builder's one call (the guide's Derived/Test/ToyasCard.lean, 'card_holds'). Laid BY PROGRAM, IN A SANDBOX (cutbox-door.mjs). By AI agents, Wed Nov 11 2026. No macro, syntax, notation, axiom, sorry.
-/
import Derived.Test.YtgigodblbiiahaaDoorRows
import GoSem.ClaimSeven
namespace Go.Proofs.YtgigodblbiiahaaDoor
namespace Rows

/-- THE TIED CARD OF 'laws.FnCleanForm'. -/
def fnCleanFormCard : Claim7 := { stood := { row := fnCleanFormRow, standIns := [], harness := (true, "3fb19590520b0078fa527f05b112adf422ff8e5927e66d31e6029503f7f81380"), looks := false }, kinds := [], alts := [], laidByText := true, laidKinds := [.data, .pinned], laidTests := true, laidLooks := .later }
def FnCleanFormCardSaid : Prop := Claim7.holds Tryd.pinned (.plain (OpenSpec.ofChange fnCleanFormSpec)) fnCleanFormCard

/-- THE SECOND FORM's CARD OF 'laws.FnCleanForm'. -/
def fnCleanFormUptoCard : Claim7 := { stood := { row := fnCleanFormUptoRow, standIns := [], harness := (true, "3fb19590520b0078fa527f05b112adf422ff8e5927e66d31e6029503f7f81380"), looks := false }, kinds := [], alts := [], laidByText := true, laidKinds := [.data, .pinned], laidTests := true, laidLooks := .later }
def FnCleanFormUptoCardSaid : Prop := Claim7.holds Tryd.pinned (.plain (OpenSpec.upto fnCleanFormSpec)) fnCleanFormUptoCard
end Rows
end Go.Proofs.YtgigodblbiiahaaDoor
