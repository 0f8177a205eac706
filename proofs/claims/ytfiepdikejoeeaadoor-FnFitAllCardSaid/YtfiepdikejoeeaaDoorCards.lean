/-
  DERIVED. GIVEN WITH THE SEED: THE CARDS: each row of YtfiepdikejoeeaaDoorRows.lean that lists a variable, with what it lists TIED to the program's text (the seventh form; the later family's looks); each row that meets fmt, with fmt's text TOLD by the authors' own Lean function (tested against real Go, not proved from fmt's source: count such statements apart). THE CARD IS WHAT COUNTS. Prove the row's statement (the work); the ties are given (YtfiepdikejoeeaaDoorTie.lean); close each card by the builder's one call (the guide's Derived/Test/ToyasCard.lean, 'card_holds'). Laid BY PROGRAM, IN A SANDBOX (cutbox-door.mjs). By AI agents, Wed Nov 11 2026. No macro, syntax, notation, axiom, sorry.
-/
import Derived.Test.YtfiepdikejoeeaaDoorRows
import GoSem.ClaimSeven
namespace Go.Proofs.YtfiepdikejoeeaaDoor
namespace Rows

/-- THE TIED CARD OF 'laws.FnFitAll'. -/
def fnFitAllCard : Claim7 := { stood := { row := fnFitAllRow, standIns := [], harness := (true, "d23e4fed58b5a4e2b9377d7a780c88bca475dfc03a4540116f20c7024f4480e0"), looks := false }, kinds := [], alts := [], laidByText := true, laidKinds := [.data], laidTests := true, laidLooks := .later }
def FnFitAllCardSaid : Prop := Claim7.holds Tryd.pinned (.plain (OpenSpec.ofChange fnFitAllSpec)) fnFitAllCard

/-- THE SECOND FORM's CARD OF 'laws.FnFitAll'. -/
def fnFitAllUptoCard : Claim7 := { stood := { row := fnFitAllUptoRow, standIns := [], harness := (true, "d23e4fed58b5a4e2b9377d7a780c88bca475dfc03a4540116f20c7024f4480e0"), looks := false }, kinds := [], alts := [], laidByText := true, laidKinds := [.data], laidTests := true, laidLooks := .later }
def FnFitAllUptoCardSaid : Prop := Claim7.holds Tryd.pinned (.plain (OpenSpec.upto fnFitAllSpec)) fnFitAllUptoCard
end Rows
end Go.Proofs.YtfiepdikejoeeaaDoor
