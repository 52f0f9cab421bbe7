/-
  DERIVED. GIVEN WITH THE SEED: THE CARDS: each row of YtbomcdnijklgjaaGreatDoorRows.lean that lists a variable, with what it lists TIED to the program's text (the seventh form; the later family's looks); each row that meets fmt, with fmt's text TOLD by the authors' own Lean function (tested against real Go, not proved from fmt's source: count such statements apart). THE CARD IS WHAT COUNTS. Prove the row's statement (the work); the ties are given (YtbomcdnijklgjaaGreatDoorTie.lean); close each card by the builder's one call (the guide's Derived/Test/ToyasCard.lean, 'card_holds'). Laid BY PROGRAM, IN A SANDBOX (cutbox-door.mjs). By AI agents, Wed Nov 11 2026. No macro, syntax, notation, axiom, sorry.
-/
import Derived.Test.YtbomcdnijklgjaaGreatDoorRows
import GoSem.ClaimSeven
namespace Go.Proofs.YtbomcdnijklgjaaGreatDoor
namespace Rows

/-- THE TIED CARD OF 'laws.FnConfig'. -/
def fnConfigCard : Claim7 := { stood := { row := fnConfigRow, standIns := [], harness := (true, "f3d1533440b962507fd6271ee81ac72085378722b89229c34aa0ada12dfdff72"), looks := true }, kinds := [], alts := [], laidByText := true, laidKinds := [.data, .sentinel, .sentinel, .listed, .sentinel, .data, .sentinel, .sentinel, .pinned], laidTests := true, laidLooks := .later }
def FnConfigCardSaid : Prop := Claim7.holds Tryz.pinned (.plain (OpenSpec.ofChange fnConfigSpec)) fnConfigCard

/-- THE TIED CARD OF 'laws.FnConfigAdd'. -/
def fnConfigAddCard : Claim7 := { stood := { row := fnConfigAddRow, standIns := [], harness := (true, "f3d1533440b962507fd6271ee81ac72085378722b89229c34aa0ada12dfdff72"), looks := true }, kinds := [], alts := [], laidByText := true, laidKinds := [.data, .sentinel, .sentinel, .listed, .sentinel, .data, .sentinel, .sentinel, .pinned], laidTests := true, laidLooks := .later }
def FnConfigAddCardSaid : Prop := Claim7.holds Tryz.pinned (.plain (OpenSpec.ofChange fnConfigAddSpec)) fnConfigAddCard

/-- THE TIED CARD OF 'laws.FnConfigValues'. -/
def fnConfigValuesCard : Claim7 := { stood := { row := fnConfigValuesRow, standIns := [], harness := (true, "f3d1533440b962507fd6271ee81ac72085378722b89229c34aa0ada12dfdff72"), looks := true }, kinds := [], alts := [], laidByText := true, laidKinds := [.data, .sentinel, .sentinel, .listed, .sentinel, .data, .sentinel, .sentinel, .pinned], laidTests := true, laidLooks := .later }
def FnConfigValuesCardSaid : Prop := Claim7.holds Tryz.pinned (.plain (OpenSpec.ofChange fnConfigValuesSpec)) fnConfigValuesCard

/-- THE SECOND FORM's CARD OF 'laws.FnConfig'. -/
def fnConfigUptoCard : Claim7 := { stood := { row := fnConfigUptoRow, standIns := [], harness := (true, "f3d1533440b962507fd6271ee81ac72085378722b89229c34aa0ada12dfdff72"), looks := true }, kinds := [], alts := [], laidByText := true, laidKinds := [.data, .sentinel, .sentinel, .listed, .sentinel, .data, .sentinel, .sentinel, .pinned], laidTests := true, laidLooks := .later }
def FnConfigUptoCardSaid : Prop := Claim7.holds Tryz.pinned (.plain (OpenSpec.upto fnConfigSpec)) fnConfigUptoCard

/-- THE SECOND FORM's CARD OF 'laws.FnConfigAdd'. -/
def fnConfigAddUptoCard : Claim7 := { stood := { row := fnConfigAddUptoRow, standIns := [], harness := (true, "f3d1533440b962507fd6271ee81ac72085378722b89229c34aa0ada12dfdff72"), looks := true }, kinds := [], alts := [], laidByText := true, laidKinds := [.data, .sentinel, .sentinel, .listed, .sentinel, .data, .sentinel, .sentinel, .pinned], laidTests := true, laidLooks := .later }
def FnConfigAddUptoCardSaid : Prop := Claim7.holds Tryz.pinned (.plain (OpenSpec.upto fnConfigAddSpec)) fnConfigAddUptoCard

/-- THE SECOND FORM's CARD OF 'laws.FnConfigValues'. -/
def fnConfigValuesUptoCard : Claim7 := { stood := { row := fnConfigValuesUptoRow, standIns := [], harness := (true, "f3d1533440b962507fd6271ee81ac72085378722b89229c34aa0ada12dfdff72"), looks := true }, kinds := [], alts := [], laidByText := true, laidKinds := [.data, .sentinel, .sentinel, .listed, .sentinel, .data, .sentinel, .sentinel, .pinned], laidTests := true, laidLooks := .later }
def FnConfigValuesUptoCardSaid : Prop := Claim7.holds Tryz.pinned (.plain (OpenSpec.upto fnConfigValuesSpec)) fnConfigValuesUptoCard
end Rows
end Go.Proofs.YtbomcdnijklgjaaGreatDoor
