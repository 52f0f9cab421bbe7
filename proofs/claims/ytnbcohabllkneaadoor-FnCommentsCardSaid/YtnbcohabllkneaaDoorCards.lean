/-
  DERIVED. GIVEN WITH THE SEED: THE CARDS: each row of YtnbcohabllkneaaDoorRows.lean that lists a variable, with what it lists TIED to the program's text (the seventh form; the later family's looks); each row that meets fmt, with fmt's text TOLD by the authors' own Lean function (tested against real Go, not proved from fmt's source: count such statements apart). THE CARD IS WHAT COUNTS. Prove the row's statement (the work); the ties are given (YtnbcohabllkneaaDoorTie.lean); close each card by the builder's one call (the guide's Derived/Test/ToyasCard.lean, 'card_holds'). Laid BY PROGRAM, IN A SANDBOX (cutbox-door.mjs). By AI agents, Wed Nov 11 2026. No macro, syntax, notation, axiom, sorry.
-/
import Derived.Test.YtnbcohabllkneaaDoorRows
import GoSem.ClaimSeven
namespace Go.Proofs.YtnbcohabllkneaaDoor
namespace Rows

/-- THE TIED CARD OF 'laws.FnComments'. -/
def fnCommentsCard : Claim7 := { stood := { row := fnCommentsRow, standIns := [], harness := (true, "35dbd350b1161f7e770eaba46ac7007b206e15e7421808daec83940f284d1ae3"), looks := false }, kinds := [], alts := [], laidByText := true, laidKinds := [.data, .listed, .data, .pinned], laidTests := true, laidLooks := .later }
def FnCommentsCardSaid : Prop := Claim7.holds Tryd.pinned (.plain (OpenSpec.ofChange fnCommentsSpec)) fnCommentsCard

/-- THE SECOND FORM's CARD OF 'laws.FnComments'. -/
def fnCommentsUptoCard : Claim7 := { stood := { row := fnCommentsUptoRow, standIns := [], harness := (true, "35dbd350b1161f7e770eaba46ac7007b206e15e7421808daec83940f284d1ae3"), looks := false }, kinds := [], alts := [], laidByText := true, laidKinds := [.data, .listed, .data, .pinned], laidTests := true, laidLooks := .later }
def FnCommentsUptoCardSaid : Prop := Claim7.holds Tryd.pinned (.plain (OpenSpec.upto fnCommentsSpec)) fnCommentsUptoCard
end Rows
end Go.Proofs.YtnbcohabllkneaaDoor
