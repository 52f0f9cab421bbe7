/-
  DERIVED. GIVEN WITH THE SEED: THE CARDS: each row of YtjglpjlbnmpdfaaGreatDoorRows.lean that lists a variable, with what it lists TIED to the program's text (the seventh form; the later family's looks); each row that meets fmt, with fmt's text TOLD by the authors' own Lean function (tested against real Go, not proved from fmt's source: count such statements apart). THE CARD IS WHAT COUNTS. Prove the row's statement (the work); the ties are given (YtjglpjlbnmpdfaaGreatDoorTie.lean); close each card by the builder's one call (the guide's Derived/Test/ToyasCard.lean, 'card_holds'). Laid BY PROGRAM, IN A SANDBOX (cutbox-door.mjs). By AI agents, Wed Nov 11 2026. No macro, syntax, notation, axiom, sorry.
-/
import Derived.Test.YtjglpjlbnmpdfaaGreatDoorRows
import GoSem.ClaimSeven
namespace Go.Proofs.YtjglpjlbnmpdfaaGreatDoor
namespace Rows

/-- THE TIED CARD OF 'laws.FnModelLess'. -/
def fnModelLessCard : Claim7 := { stood := { row := fnModelLessRow, standIns := [], harness := (true, "4a17abe8c7edac88a0ef975974be7eb33aa631e976a318712f501856e0713e60"), looks := true }, kinds := [], alts := [], laidByText := true, laidKinds := [.data, .sentinel, .sentinel, .listed, .sentinel, .data, .data, .sentinel, .sentinel, .pinned], laidTests := true, laidLooks := .later }
def FnModelLessCardSaid : Prop := Claim7.holds Tryz.pinned (.plain (OpenSpec.ofChange fnModelLessSpec)) fnModelLessCard

/-- THE TIED CARD OF 'laws.FnModelDefs'. -/
def fnModelDefsCard : Claim7 := { stood := { row := fnModelDefsRow, standIns := [], harness := (true, "4a17abe8c7edac88a0ef975974be7eb33aa631e976a318712f501856e0713e60"), looks := true }, kinds := [], alts := [], laidByText := true, laidKinds := [.data, .sentinel, .sentinel, .listed, .sentinel, .data, .data, .sentinel, .sentinel, .pinned], laidTests := true, laidLooks := .later }
def FnModelDefsCardSaid : Prop := Claim7.holds Tryz.pinned (.plain (OpenSpec.ofChange fnModelDefsSpec)) fnModelDefsCard

/-- THE TIED CARD OF 'laws.FnModelAdd'. -/
def fnModelAddCard : Claim7 := { stood := { row := fnModelAddRow, standIns := [], harness := (true, "4a17abe8c7edac88a0ef975974be7eb33aa631e976a318712f501856e0713e60"), looks := true }, kinds := [], alts := [], laidByText := true, laidKinds := [.data, .sentinel, .sentinel, .listed, .sentinel, .data, .data, .sentinel, .sentinel, .pinned], laidTests := true, laidLooks := .later }
def FnModelAddCardSaid : Prop := Claim7.holds Tryz.pinned (.plain (OpenSpec.ofChange fnModelAddSpec)) fnModelAddCard

/-- THE TIED CARD OF 'laws.FnWorldText'. -/
def fnWorldTextCard : Claim7 := { stood := { row := fnWorldTextRow, standIns := [], harness := (true, "4a17abe8c7edac88a0ef975974be7eb33aa631e976a318712f501856e0713e60"), looks := true }, kinds := [], alts := [], laidByText := true, laidKinds := [.data, .sentinel, .sentinel, .listed, .sentinel, .data, .data, .sentinel, .sentinel, .pinned], laidTests := true, laidLooks := .later }
def FnWorldTextCardSaid : Prop := Claim7.holds Tryz.pinned (.plain (OpenSpec.ofChange fnWorldTextSpec)) fnWorldTextCard

/-- THE TIED CARD OF 'laws.FnModelBack'. -/
def fnModelBackCard : Claim7 := { stood := { row := fnModelBackRow, standIns := [], harness := (true, "4a17abe8c7edac88a0ef975974be7eb33aa631e976a318712f501856e0713e60"), looks := true }, kinds := [], alts := [], laidByText := true, laidKinds := [.data, .sentinel, .sentinel, .listed, .sentinel, .data, .data, .sentinel, .sentinel, .pinned], laidTests := true, laidLooks := .later }
def FnModelBackCardSaid : Prop := Claim7.holds Tryz.pinned (.plain (OpenSpec.ofChange fnModelBackSpec)) fnModelBackCard

/-- THE SECOND FORM's CARD OF 'laws.FnModelLess'. -/
def fnModelLessUptoCard : Claim7 := { stood := { row := fnModelLessUptoRow, standIns := [], harness := (true, "4a17abe8c7edac88a0ef975974be7eb33aa631e976a318712f501856e0713e60"), looks := true }, kinds := [], alts := [], laidByText := true, laidKinds := [.data, .sentinel, .sentinel, .listed, .sentinel, .data, .data, .sentinel, .sentinel, .pinned], laidTests := true, laidLooks := .later }
def FnModelLessUptoCardSaid : Prop := Claim7.holds Tryz.pinned (.plain (OpenSpec.upto fnModelLessSpec)) fnModelLessUptoCard

/-- THE SECOND FORM's CARD OF 'laws.FnModelDefs'. -/
def fnModelDefsUptoCard : Claim7 := { stood := { row := fnModelDefsUptoRow, standIns := [], harness := (true, "4a17abe8c7edac88a0ef975974be7eb33aa631e976a318712f501856e0713e60"), looks := true }, kinds := [], alts := [], laidByText := true, laidKinds := [.data, .sentinel, .sentinel, .listed, .sentinel, .data, .data, .sentinel, .sentinel, .pinned], laidTests := true, laidLooks := .later }
def FnModelDefsUptoCardSaid : Prop := Claim7.holds Tryz.pinned (.plain (OpenSpec.upto fnModelDefsSpec)) fnModelDefsUptoCard

/-- THE SECOND FORM's CARD OF 'laws.FnModelAdd'. -/
def fnModelAddUptoCard : Claim7 := { stood := { row := fnModelAddUptoRow, standIns := [], harness := (true, "4a17abe8c7edac88a0ef975974be7eb33aa631e976a318712f501856e0713e60"), looks := true }, kinds := [], alts := [], laidByText := true, laidKinds := [.data, .sentinel, .sentinel, .listed, .sentinel, .data, .data, .sentinel, .sentinel, .pinned], laidTests := true, laidLooks := .later }
def FnModelAddUptoCardSaid : Prop := Claim7.holds Tryz.pinned (.plain (OpenSpec.upto fnModelAddSpec)) fnModelAddUptoCard

/-- THE SECOND FORM's CARD OF 'laws.FnWorldText'. -/
def fnWorldTextUptoCard : Claim7 := { stood := { row := fnWorldTextUptoRow, standIns := [], harness := (true, "4a17abe8c7edac88a0ef975974be7eb33aa631e976a318712f501856e0713e60"), looks := true }, kinds := [], alts := [], laidByText := true, laidKinds := [.data, .sentinel, .sentinel, .listed, .sentinel, .data, .data, .sentinel, .sentinel, .pinned], laidTests := true, laidLooks := .later }
def FnWorldTextUptoCardSaid : Prop := Claim7.holds Tryz.pinned (.plain (OpenSpec.upto fnWorldTextSpec)) fnWorldTextUptoCard

/-- THE SECOND FORM's CARD OF 'laws.FnModelBack'. -/
def fnModelBackUptoCard : Claim7 := { stood := { row := fnModelBackUptoRow, standIns := [], harness := (true, "4a17abe8c7edac88a0ef975974be7eb33aa631e976a318712f501856e0713e60"), looks := true }, kinds := [], alts := [], laidByText := true, laidKinds := [.data, .sentinel, .sentinel, .listed, .sentinel, .data, .data, .sentinel, .sentinel, .pinned], laidTests := true, laidLooks := .later }
def FnModelBackUptoCardSaid : Prop := Claim7.holds Tryz.pinned (.plain (OpenSpec.upto fnModelBackSpec)) fnModelBackUptoCard
end Rows
end Go.Proofs.YtjglpjlbnmpdfaaGreatDoor
