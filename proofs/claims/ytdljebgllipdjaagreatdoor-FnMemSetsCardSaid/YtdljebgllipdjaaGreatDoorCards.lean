/-
  DERIVED. GIVEN WITH THE SEED: THE CARDS: each row of YtdljebgllipdjaaGreatDoorRows.lean that lists a variable, with what it lists TIED to the program's text (the seventh form; the later family's looks); each row that meets fmt, with fmt's text TOLD by the authors' own Lean function (tested against real Go, not proved from fmt's source: count such statements apart). THE CARD IS WHAT COUNTS. Prove the row's statement (the work); the ties are given (YtdljebgllipdjaaGreatDoorTie.lean); close each card by the builder's one call (the guide's Derived/Test/ToyasCard.lean, 'card_holds'). Laid BY PROGRAM, IN A SANDBOX (cutbox-door.mjs). By AI agents, Wed Nov 11 2026. No macro, syntax, notation, axiom, sorry.
-/
import Derived.Test.YtdljebgllipdjaaGreatDoorRows
import GoSem.ClaimSeven
namespace Go.Proofs.YtdljebgllipdjaaGreatDoor
namespace Rows

/-- THE TIED CARD OF 'laws.FnMemTree'. -/
def fnMemTreeCard : Claim7 := { stood := { row := fnMemTreeRow, standIns := [], harness := (true, "e92de5e38e0b119f9e26ee0d56732a201b8d4ca85d49d7ab4cc5829a05721762"), looks := true }, kinds := [], alts := [], laidByText := true, laidKinds := [.sentinel, .sentinel, .sentinel, .sentinel, .sentinel, .sentinel, .sentinel, .sentinel, .sentinel, .sentinel, .sentinel], laidTests := true, laidLooks := .later }
def FnMemTreeCardSaid : Prop := Claim7.holds Tryz.pinned (.plain (OpenSpec.ofChange fnMemTreeSpec)) fnMemTreeCard

/-- THE TIED CARD OF 'laws.FnMemCopies'. -/
def fnMemCopiesCard : Claim7 := { stood := { row := fnMemCopiesRow, standIns := [], harness := (true, "e92de5e38e0b119f9e26ee0d56732a201b8d4ca85d49d7ab4cc5829a05721762"), looks := true }, kinds := [], alts := [], laidByText := true, laidKinds := [.sentinel, .sentinel, .sentinel, .sentinel, .sentinel, .sentinel, .sentinel, .sentinel, .sentinel, .sentinel, .sentinel], laidTests := true, laidLooks := .later }
def FnMemCopiesCardSaid : Prop := Claim7.holds Tryz.pinned (.plain (OpenSpec.ofChange fnMemCopiesSpec)) fnMemCopiesCard

/-- THE TIED CARD OF 'laws.FnMemLooking'. -/
def fnMemLookingCard : Claim7 := { stood := { row := fnMemLookingRow, standIns := [], harness := (true, "e92de5e38e0b119f9e26ee0d56732a201b8d4ca85d49d7ab4cc5829a05721762"), looks := true }, kinds := [], alts := [], laidByText := true, laidKinds := [.sentinel, .sentinel, .sentinel, .sentinel, .sentinel, .sentinel, .sentinel, .sentinel, .sentinel, .sentinel, .sentinel], laidTests := true, laidLooks := .later }
def FnMemLookingCardSaid : Prop := Claim7.holds Tryz.pinned (.plain (OpenSpec.ofChange fnMemLookingSpec)) fnMemLookingCard

/-- THE TIED CARD OF 'laws.FnMemNamesAreNames'. -/
def fnMemNamesAreNamesCard : Claim7 := { stood := { row := fnMemNamesAreNamesRow, standIns := [], harness := (true, "e92de5e38e0b119f9e26ee0d56732a201b8d4ca85d49d7ab4cc5829a05721762"), looks := true }, kinds := [], alts := [], laidByText := true, laidKinds := [.sentinel, .sentinel, .sentinel, .sentinel, .sentinel, .sentinel, .sentinel, .sentinel, .sentinel, .sentinel, .sentinel], laidTests := true, laidLooks := .later }
def FnMemNamesAreNamesCardSaid : Prop := Claim7.holds Tryz.pinned (.plain (OpenSpec.ofChange fnMemNamesAreNamesSpec)) fnMemNamesAreNamesCard

/-- THE TIED CARD OF 'laws.FnMemRemoves'. -/
def fnMemRemovesCard : Claim7 := { stood := { row := fnMemRemovesRow, standIns := [], harness := (true, "e92de5e38e0b119f9e26ee0d56732a201b8d4ca85d49d7ab4cc5829a05721762"), looks := true }, kinds := [], alts := [], laidByText := true, laidKinds := [.sentinel, .sentinel, .sentinel, .sentinel, .sentinel, .sentinel, .sentinel, .sentinel, .sentinel, .sentinel, .sentinel], laidTests := true, laidLooks := .later }
def FnMemRemovesCardSaid : Prop := Claim7.holds Tryz.pinned (.plain (OpenSpec.ofChange fnMemRemovesSpec)) fnMemRemovesCard

/-- THE TIED CARD OF 'laws.FnMemSets'. -/
def fnMemSetsCard : Claim7 := { stood := { row := fnMemSetsRow, standIns := [], harness := (true, "e92de5e38e0b119f9e26ee0d56732a201b8d4ca85d49d7ab4cc5829a05721762"), looks := true }, kinds := [], alts := [], laidByText := true, laidKinds := [.sentinel, .sentinel, .sentinel, .sentinel, .sentinel, .sentinel, .sentinel, .sentinel, .sentinel, .sentinel, .sentinel], laidTests := true, laidLooks := .later }
def FnMemSetsCardSaid : Prop := Claim7.holds Tryz.pinned (.plain (OpenSpec.ofChange fnMemSetsSpec)) fnMemSetsCard

/-- THE TIED CARD OF 'laws.FnReadDir'. -/
def fnReadDirCard : Claim7 := { stood := { row := fnReadDirRow, standIns := [], harness := (true, "e92de5e38e0b119f9e26ee0d56732a201b8d4ca85d49d7ab4cc5829a05721762"), looks := true }, kinds := [], alts := [], laidByText := true, laidKinds := [.sentinel, .sentinel, .sentinel, .sentinel, .sentinel, .sentinel, .sentinel, .sentinel, .sentinel, .sentinel, .sentinel], laidTests := true, laidLooks := .later }
def FnReadDirCardSaid : Prop := Claim7.holds Tryz.pinned (.plain (OpenSpec.ofChange fnReadDirSpec)) fnReadDirCard

/-- THE TIED CARD OF 'laws.FnReadFile'. -/
def fnReadFileCard : Claim7 := { stood := { row := fnReadFileRow, standIns := [], harness := (true, "e92de5e38e0b119f9e26ee0d56732a201b8d4ca85d49d7ab4cc5829a05721762"), looks := true }, kinds := [], alts := [], laidByText := true, laidKinds := [.sentinel, .sentinel, .sentinel, .sentinel, .sentinel, .sentinel, .sentinel, .sentinel, .sentinel, .sentinel, .sentinel], laidTests := true, laidLooks := .later }
def FnReadFileCardSaid : Prop := Claim7.holds Tryz.pinned (.plain (OpenSpec.ofChange fnReadFileSpec)) fnReadFileCard

/-- THE TIED CARD OF 'laws.FnWalkIsAll'. -/
def fnWalkIsAllCard : Claim7 := { stood := { row := fnWalkIsAllRow, standIns := [], harness := (true, "e92de5e38e0b119f9e26ee0d56732a201b8d4ca85d49d7ab4cc5829a05721762"), looks := true }, kinds := [], alts := [], laidByText := true, laidKinds := [.sentinel, .sentinel, .sentinel, .sentinel, .sentinel, .sentinel, .sentinel, .sentinel, .sentinel, .sentinel, .sentinel, .sentinel], laidTests := true, laidLooks := .later }
def FnWalkIsAllCardSaid : Prop := Claim7.holds Tryz.pinned (.plain (OpenSpec.ofChange fnWalkIsAllSpec)) fnWalkIsAllCard

/-- THE TIED CARD OF 'laws.FnReadOnlyIsTheTree'. -/
def fnReadOnlyIsTheTreeCard : Claim7 := { stood := { row := fnReadOnlyIsTheTreeRow, standIns := [], harness := (true, "e92de5e38e0b119f9e26ee0d56732a201b8d4ca85d49d7ab4cc5829a05721762"), looks := true }, kinds := [], alts := [], laidByText := true, laidKinds := [.sentinel, .sentinel, .sentinel, .sentinel, .sentinel, .sentinel, .sentinel, .sentinel, .sentinel, .sentinel, .sentinel], laidTests := true, laidLooks := .later }
def FnReadOnlyIsTheTreeCardSaid : Prop := Claim7.holds Tryz.pinned (.plain (OpenSpec.ofChange fnReadOnlyIsTheTreeSpec)) fnReadOnlyIsTheTreeCard

/-- THE TIED CARD OF 'laws.FnBaseKeepsTheRest'. -/
def fnBaseKeepsTheRestCard : Claim7 := { stood := { row := fnBaseKeepsTheRestRow, standIns := [], harness := (true, "e92de5e38e0b119f9e26ee0d56732a201b8d4ca85d49d7ab4cc5829a05721762"), looks := true }, kinds := [], alts := [], laidByText := true, laidKinds := [.sentinel, .sentinel, .sentinel, .sentinel, .sentinel, .sentinel, .sentinel, .sentinel, .sentinel, .sentinel, .sentinel], laidTests := true, laidLooks := .later }
def FnBaseKeepsTheRestCardSaid : Prop := Claim7.holds Tryz.pinned (.plain (OpenSpec.ofChange fnBaseKeepsTheRestSpec)) fnBaseKeepsTheRestCard

/-- THE SECOND FORM's CARD OF 'laws.FnMemTree'. -/
def fnMemTreeUptoCard : Claim7 := { stood := { row := fnMemTreeUptoRow, standIns := [], harness := (true, "e92de5e38e0b119f9e26ee0d56732a201b8d4ca85d49d7ab4cc5829a05721762"), looks := true }, kinds := [], alts := [], laidByText := true, laidKinds := [.sentinel, .sentinel, .sentinel, .sentinel, .sentinel, .sentinel, .sentinel, .sentinel, .sentinel, .sentinel, .sentinel], laidTests := true, laidLooks := .later }
def FnMemTreeUptoCardSaid : Prop := Claim7.holds Tryz.pinned (.plain (OpenSpec.upto fnMemTreeSpec)) fnMemTreeUptoCard

/-- THE SECOND FORM's CARD OF 'laws.FnMemCopies'. -/
def fnMemCopiesUptoCard : Claim7 := { stood := { row := fnMemCopiesUptoRow, standIns := [], harness := (true, "e92de5e38e0b119f9e26ee0d56732a201b8d4ca85d49d7ab4cc5829a05721762"), looks := true }, kinds := [], alts := [], laidByText := true, laidKinds := [.sentinel, .sentinel, .sentinel, .sentinel, .sentinel, .sentinel, .sentinel, .sentinel, .sentinel, .sentinel, .sentinel], laidTests := true, laidLooks := .later }
def FnMemCopiesUptoCardSaid : Prop := Claim7.holds Tryz.pinned (.plain (OpenSpec.upto fnMemCopiesSpec)) fnMemCopiesUptoCard

/-- THE SECOND FORM's CARD OF 'laws.FnMemLooking'. -/
def fnMemLookingUptoCard : Claim7 := { stood := { row := fnMemLookingUptoRow, standIns := [], harness := (true, "e92de5e38e0b119f9e26ee0d56732a201b8d4ca85d49d7ab4cc5829a05721762"), looks := true }, kinds := [], alts := [], laidByText := true, laidKinds := [.sentinel, .sentinel, .sentinel, .sentinel, .sentinel, .sentinel, .sentinel, .sentinel, .sentinel, .sentinel, .sentinel], laidTests := true, laidLooks := .later }
def FnMemLookingUptoCardSaid : Prop := Claim7.holds Tryz.pinned (.plain (OpenSpec.upto fnMemLookingSpec)) fnMemLookingUptoCard

/-- THE SECOND FORM's CARD OF 'laws.FnMemNamesAreNames'. -/
def fnMemNamesAreNamesUptoCard : Claim7 := { stood := { row := fnMemNamesAreNamesUptoRow, standIns := [], harness := (true, "e92de5e38e0b119f9e26ee0d56732a201b8d4ca85d49d7ab4cc5829a05721762"), looks := true }, kinds := [], alts := [], laidByText := true, laidKinds := [.sentinel, .sentinel, .sentinel, .sentinel, .sentinel, .sentinel, .sentinel, .sentinel, .sentinel, .sentinel, .sentinel], laidTests := true, laidLooks := .later }
def FnMemNamesAreNamesUptoCardSaid : Prop := Claim7.holds Tryz.pinned (.plain (OpenSpec.upto fnMemNamesAreNamesSpec)) fnMemNamesAreNamesUptoCard

/-- THE SECOND FORM's CARD OF 'laws.FnMemRemoves'. -/
def fnMemRemovesUptoCard : Claim7 := { stood := { row := fnMemRemovesUptoRow, standIns := [], harness := (true, "e92de5e38e0b119f9e26ee0d56732a201b8d4ca85d49d7ab4cc5829a05721762"), looks := true }, kinds := [], alts := [], laidByText := true, laidKinds := [.sentinel, .sentinel, .sentinel, .sentinel, .sentinel, .sentinel, .sentinel, .sentinel, .sentinel, .sentinel, .sentinel], laidTests := true, laidLooks := .later }
def FnMemRemovesUptoCardSaid : Prop := Claim7.holds Tryz.pinned (.plain (OpenSpec.upto fnMemRemovesSpec)) fnMemRemovesUptoCard

/-- THE SECOND FORM's CARD OF 'laws.FnMemSets'. -/
def fnMemSetsUptoCard : Claim7 := { stood := { row := fnMemSetsUptoRow, standIns := [], harness := (true, "e92de5e38e0b119f9e26ee0d56732a201b8d4ca85d49d7ab4cc5829a05721762"), looks := true }, kinds := [], alts := [], laidByText := true, laidKinds := [.sentinel, .sentinel, .sentinel, .sentinel, .sentinel, .sentinel, .sentinel, .sentinel, .sentinel, .sentinel, .sentinel], laidTests := true, laidLooks := .later }
def FnMemSetsUptoCardSaid : Prop := Claim7.holds Tryz.pinned (.plain (OpenSpec.upto fnMemSetsSpec)) fnMemSetsUptoCard

/-- THE SECOND FORM's CARD OF 'laws.FnReadDir'. -/
def fnReadDirUptoCard : Claim7 := { stood := { row := fnReadDirUptoRow, standIns := [], harness := (true, "e92de5e38e0b119f9e26ee0d56732a201b8d4ca85d49d7ab4cc5829a05721762"), looks := true }, kinds := [], alts := [], laidByText := true, laidKinds := [.sentinel, .sentinel, .sentinel, .sentinel, .sentinel, .sentinel, .sentinel, .sentinel, .sentinel, .sentinel, .sentinel], laidTests := true, laidLooks := .later }
def FnReadDirUptoCardSaid : Prop := Claim7.holds Tryz.pinned (.plain (OpenSpec.upto fnReadDirSpec)) fnReadDirUptoCard

/-- THE SECOND FORM's CARD OF 'laws.FnReadFile'. -/
def fnReadFileUptoCard : Claim7 := { stood := { row := fnReadFileUptoRow, standIns := [], harness := (true, "e92de5e38e0b119f9e26ee0d56732a201b8d4ca85d49d7ab4cc5829a05721762"), looks := true }, kinds := [], alts := [], laidByText := true, laidKinds := [.sentinel, .sentinel, .sentinel, .sentinel, .sentinel, .sentinel, .sentinel, .sentinel, .sentinel, .sentinel, .sentinel], laidTests := true, laidLooks := .later }
def FnReadFileUptoCardSaid : Prop := Claim7.holds Tryz.pinned (.plain (OpenSpec.upto fnReadFileSpec)) fnReadFileUptoCard

/-- THE SECOND FORM's CARD OF 'laws.FnWalkIsAll'. -/
def fnWalkIsAllUptoCard : Claim7 := { stood := { row := fnWalkIsAllUptoRow, standIns := [], harness := (true, "e92de5e38e0b119f9e26ee0d56732a201b8d4ca85d49d7ab4cc5829a05721762"), looks := true }, kinds := [], alts := [], laidByText := true, laidKinds := [.sentinel, .sentinel, .sentinel, .sentinel, .sentinel, .sentinel, .sentinel, .sentinel, .sentinel, .sentinel, .sentinel, .sentinel], laidTests := true, laidLooks := .later }
def FnWalkIsAllUptoCardSaid : Prop := Claim7.holds Tryz.pinned (.plain (OpenSpec.upto fnWalkIsAllSpec)) fnWalkIsAllUptoCard

/-- THE SECOND FORM's CARD OF 'laws.FnReadOnlyIsTheTree'. -/
def fnReadOnlyIsTheTreeUptoCard : Claim7 := { stood := { row := fnReadOnlyIsTheTreeUptoRow, standIns := [], harness := (true, "e92de5e38e0b119f9e26ee0d56732a201b8d4ca85d49d7ab4cc5829a05721762"), looks := true }, kinds := [], alts := [], laidByText := true, laidKinds := [.sentinel, .sentinel, .sentinel, .sentinel, .sentinel, .sentinel, .sentinel, .sentinel, .sentinel, .sentinel, .sentinel], laidTests := true, laidLooks := .later }
def FnReadOnlyIsTheTreeUptoCardSaid : Prop := Claim7.holds Tryz.pinned (.plain (OpenSpec.upto fnReadOnlyIsTheTreeSpec)) fnReadOnlyIsTheTreeUptoCard

/-- THE SECOND FORM's CARD OF 'laws.FnBaseKeepsTheRest'. -/
def fnBaseKeepsTheRestUptoCard : Claim7 := { stood := { row := fnBaseKeepsTheRestUptoRow, standIns := [], harness := (true, "e92de5e38e0b119f9e26ee0d56732a201b8d4ca85d49d7ab4cc5829a05721762"), looks := true }, kinds := [], alts := [], laidByText := true, laidKinds := [.sentinel, .sentinel, .sentinel, .sentinel, .sentinel, .sentinel, .sentinel, .sentinel, .sentinel, .sentinel, .sentinel], laidTests := true, laidLooks := .later }
def FnBaseKeepsTheRestUptoCardSaid : Prop := Claim7.holds Tryz.pinned (.plain (OpenSpec.upto fnBaseKeepsTheRestSpec)) fnBaseKeepsTheRestUptoCard
end Rows
end Go.Proofs.YtdljebgllipdjaaGreatDoor
