/-
  DERIVED. GIVEN WITH THE SEED: THE CARDS: each row of YteblpejgenehfaaDoorRows.lean that lists a variable, with what it lists TIED to the program's text (the seventh form; the later family's looks); each row that meets fmt, with fmt's text TOLD by the authors' own Lean function (tested against real Go, not proved from fmt's source: count such statements apart). THE CARD IS WHAT COUNTS. Prove the row's statement (the work); the ties are given (YteblpejgenehfaaDoorTie.lean); close each card by the builder's one call (the guide's Derived/Test/ToyasCard.lean, 'card_holds'). Laid BY PROGRAM, IN A SANDBOX (cutbox-door.mjs). By AI agents, Wed Nov 11 2026. No macro, syntax, notation, axiom, sorry.
-/
import Derived.Test.YteblpejgenehfaaDoorRows
import GoSem.ClaimSeven
namespace Go.Proofs.YteblpejgenehfaaDoor
namespace Rows

/-- THE TIED CARD OF 'laws.FnBytesAreBytes'. -/
def fnBytesAreBytesCard : Claim7 := { stood := { row := fnBytesAreBytesRow, standIns := [], harness := (true, "62346c58ea76b1d2f311900964233726ac7ecba868aacfb1fbcf3847cabe6ca1"), looks := true }, kinds := [], alts := [], laidByText := true, laidKinds := [.sentinel, .sentinel, .sentinel, .sentinel, .sentinel, .sentinel, .sentinel, .sentinel, .sentinel, .sentinel, .sentinel], laidTests := true, laidLooks := .later }
def FnBytesAreBytesCardSaid : Prop := Claim7.holds Tryd.pinned (.plain (OpenSpec.ofChange fnBytesAreBytesSpec)) fnBytesAreBytesCard

/-- THE TIED CARD OF 'laws.FnReadIsReadAt'. -/
def fnReadIsReadAtCard : Claim7 := { stood := { row := fnReadIsReadAtRow, standIns := [], harness := (true, "62346c58ea76b1d2f311900964233726ac7ecba868aacfb1fbcf3847cabe6ca1"), looks := true }, kinds := [], alts := [], laidByText := true, laidKinds := [.sentinel, .sentinel, .sentinel, .sentinel, .sentinel, .sentinel, .sentinel, .sentinel, .sentinel, .sentinel, .sentinel], laidTests := true, laidLooks := .later }
def FnReadIsReadAtCardSaid : Prop := Claim7.holds Tryd.pinned (.plain (OpenSpec.ofChange fnReadIsReadAtSpec)) fnReadIsReadAtCard

/-- THE TIED CARD OF 'laws.FnReadOnlyHandle'. -/
def fnReadOnlyHandleCard : Claim7 := { stood := { row := fnReadOnlyHandleRow, standIns := [], harness := (true, "62346c58ea76b1d2f311900964233726ac7ecba868aacfb1fbcf3847cabe6ca1"), looks := true }, kinds := [], alts := [], laidByText := true, laidKinds := [.sentinel, .sentinel, .sentinel, .sentinel, .sentinel, .sentinel, .sentinel, .sentinel, .sentinel, .sentinel, .sentinel], laidTests := true, laidLooks := .later }
def FnReadOnlyHandleCardSaid : Prop := Claim7.holds Tryd.pinned (.plain (OpenSpec.ofChange fnReadOnlyHandleSpec)) fnReadOnlyHandleCard

/-- THE TIED CARD OF 'laws.FnReadToTheEnd'. -/
def fnReadToTheEndCard : Claim7 := { stood := { row := fnReadToTheEndRow, standIns := [], harness := (true, "62346c58ea76b1d2f311900964233726ac7ecba868aacfb1fbcf3847cabe6ca1"), looks := true }, kinds := [], alts := [], laidByText := true, laidKinds := [.sentinel, .sentinel, .sentinel, .sentinel, .sentinel, .sentinel, .sentinel, .sentinel, .sentinel, .sentinel, .sentinel], laidTests := true, laidLooks := .later }
def FnReadToTheEndCardSaid : Prop := Claim7.holds Tryd.pinned (.plain (OpenSpec.ofChange fnReadToTheEndSpec)) fnReadToTheEndCard

/-- THE TIED CARD OF 'laws.FnSeekMoves'. -/
def fnSeekMovesCard : Claim7 := { stood := { row := fnSeekMovesRow, standIns := [], harness := (true, "62346c58ea76b1d2f311900964233726ac7ecba868aacfb1fbcf3847cabe6ca1"), looks := true }, kinds := [], alts := [], laidByText := true, laidKinds := [.sentinel, .sentinel, .sentinel, .sentinel, .sentinel, .sentinel, .sentinel, .sentinel, .sentinel, .sentinel, .sentinel], laidTests := true, laidLooks := .later }
def FnSeekMovesCardSaid : Prop := Claim7.holds Tryd.pinned (.plain (OpenSpec.ofChange fnSeekMovesSpec)) fnSeekMovesCard

/-- THE TIED CARD OF 'laws.FnUnionAlike'. -/
def fnUnionAlikeCard : Claim7 := { stood := { row := fnUnionAlikeRow, standIns := [], harness := (true, "62346c58ea76b1d2f311900964233726ac7ecba868aacfb1fbcf3847cabe6ca1"), looks := true }, kinds := [], alts := [], laidByText := true, laidKinds := [.sentinel, .sentinel, .sentinel, .sentinel, .sentinel, .sentinel, .sentinel, .sentinel, .sentinel, .sentinel, .sentinel], laidTests := true, laidLooks := .later }
def FnUnionAlikeCardSaid : Prop := Claim7.holds Tryd.pinned (.plain (OpenSpec.ofChange fnUnionAlikeSpec)) fnUnionAlikeCard

/-- THE TIED CARD OF 'laws.FnUnionCopies'. -/
def fnUnionCopiesCard : Claim7 := { stood := { row := fnUnionCopiesRow, standIns := [], harness := (true, "62346c58ea76b1d2f311900964233726ac7ecba868aacfb1fbcf3847cabe6ca1"), looks := true }, kinds := [], alts := [], laidByText := true, laidKinds := [.sentinel, .sentinel, .sentinel, .sentinel, .sentinel, .sentinel, .sentinel, .sentinel, .sentinel, .sentinel, .sentinel], laidTests := true, laidLooks := .later }
def FnUnionCopiesCardSaid : Prop := Claim7.holds Tryd.pinned (.plain (OpenSpec.ofChange fnUnionCopiesSpec)) fnUnionCopiesCard

/-- THE TIED CARD OF 'laws.FnUnionScript'. -/
def fnUnionScriptCard : Claim7 := { stood := { row := fnUnionScriptRow, standIns := [], harness := (true, "62346c58ea76b1d2f311900964233726ac7ecba868aacfb1fbcf3847cabe6ca1"), looks := true }, kinds := [], alts := [], laidByText := true, laidKinds := [.sentinel, .sentinel, .sentinel, .sentinel, .sentinel, .sentinel, .sentinel, .sentinel, .sentinel, .sentinel, .sentinel], laidTests := true, laidLooks := .later }
def FnUnionScriptCardSaid : Prop := Claim7.holds Tryd.pinned (.plain (OpenSpec.ofChange fnUnionScriptSpec)) fnUnionScriptCard

/-- THE SECOND FORM's CARD OF 'laws.FnBytesAreBytes'. -/
def fnBytesAreBytesUptoCard : Claim7 := { stood := { row := fnBytesAreBytesUptoRow, standIns := [], harness := (true, "62346c58ea76b1d2f311900964233726ac7ecba868aacfb1fbcf3847cabe6ca1"), looks := true }, kinds := [], alts := [], laidByText := true, laidKinds := [.sentinel, .sentinel, .sentinel, .sentinel, .sentinel, .sentinel, .sentinel, .sentinel, .sentinel, .sentinel, .sentinel], laidTests := true, laidLooks := .later }
def FnBytesAreBytesUptoCardSaid : Prop := Claim7.holds Tryd.pinned (.plain (OpenSpec.upto fnBytesAreBytesSpec)) fnBytesAreBytesUptoCard

/-- THE SECOND FORM's CARD OF 'laws.FnReadIsReadAt'. -/
def fnReadIsReadAtUptoCard : Claim7 := { stood := { row := fnReadIsReadAtUptoRow, standIns := [], harness := (true, "62346c58ea76b1d2f311900964233726ac7ecba868aacfb1fbcf3847cabe6ca1"), looks := true }, kinds := [], alts := [], laidByText := true, laidKinds := [.sentinel, .sentinel, .sentinel, .sentinel, .sentinel, .sentinel, .sentinel, .sentinel, .sentinel, .sentinel, .sentinel], laidTests := true, laidLooks := .later }
def FnReadIsReadAtUptoCardSaid : Prop := Claim7.holds Tryd.pinned (.plain (OpenSpec.upto fnReadIsReadAtSpec)) fnReadIsReadAtUptoCard

/-- THE SECOND FORM's CARD OF 'laws.FnReadOnlyHandle'. -/
def fnReadOnlyHandleUptoCard : Claim7 := { stood := { row := fnReadOnlyHandleUptoRow, standIns := [], harness := (true, "62346c58ea76b1d2f311900964233726ac7ecba868aacfb1fbcf3847cabe6ca1"), looks := true }, kinds := [], alts := [], laidByText := true, laidKinds := [.sentinel, .sentinel, .sentinel, .sentinel, .sentinel, .sentinel, .sentinel, .sentinel, .sentinel, .sentinel, .sentinel], laidTests := true, laidLooks := .later }
def FnReadOnlyHandleUptoCardSaid : Prop := Claim7.holds Tryd.pinned (.plain (OpenSpec.upto fnReadOnlyHandleSpec)) fnReadOnlyHandleUptoCard

/-- THE SECOND FORM's CARD OF 'laws.FnReadToTheEnd'. -/
def fnReadToTheEndUptoCard : Claim7 := { stood := { row := fnReadToTheEndUptoRow, standIns := [], harness := (true, "62346c58ea76b1d2f311900964233726ac7ecba868aacfb1fbcf3847cabe6ca1"), looks := true }, kinds := [], alts := [], laidByText := true, laidKinds := [.sentinel, .sentinel, .sentinel, .sentinel, .sentinel, .sentinel, .sentinel, .sentinel, .sentinel, .sentinel, .sentinel], laidTests := true, laidLooks := .later }
def FnReadToTheEndUptoCardSaid : Prop := Claim7.holds Tryd.pinned (.plain (OpenSpec.upto fnReadToTheEndSpec)) fnReadToTheEndUptoCard

/-- THE SECOND FORM's CARD OF 'laws.FnSeekMoves'. -/
def fnSeekMovesUptoCard : Claim7 := { stood := { row := fnSeekMovesUptoRow, standIns := [], harness := (true, "62346c58ea76b1d2f311900964233726ac7ecba868aacfb1fbcf3847cabe6ca1"), looks := true }, kinds := [], alts := [], laidByText := true, laidKinds := [.sentinel, .sentinel, .sentinel, .sentinel, .sentinel, .sentinel, .sentinel, .sentinel, .sentinel, .sentinel, .sentinel], laidTests := true, laidLooks := .later }
def FnSeekMovesUptoCardSaid : Prop := Claim7.holds Tryd.pinned (.plain (OpenSpec.upto fnSeekMovesSpec)) fnSeekMovesUptoCard

/-- THE SECOND FORM's CARD OF 'laws.FnUnionAlike'. -/
def fnUnionAlikeUptoCard : Claim7 := { stood := { row := fnUnionAlikeUptoRow, standIns := [], harness := (true, "62346c58ea76b1d2f311900964233726ac7ecba868aacfb1fbcf3847cabe6ca1"), looks := true }, kinds := [], alts := [], laidByText := true, laidKinds := [.sentinel, .sentinel, .sentinel, .sentinel, .sentinel, .sentinel, .sentinel, .sentinel, .sentinel, .sentinel, .sentinel], laidTests := true, laidLooks := .later }
def FnUnionAlikeUptoCardSaid : Prop := Claim7.holds Tryd.pinned (.plain (OpenSpec.upto fnUnionAlikeSpec)) fnUnionAlikeUptoCard

/-- THE SECOND FORM's CARD OF 'laws.FnUnionCopies'. -/
def fnUnionCopiesUptoCard : Claim7 := { stood := { row := fnUnionCopiesUptoRow, standIns := [], harness := (true, "62346c58ea76b1d2f311900964233726ac7ecba868aacfb1fbcf3847cabe6ca1"), looks := true }, kinds := [], alts := [], laidByText := true, laidKinds := [.sentinel, .sentinel, .sentinel, .sentinel, .sentinel, .sentinel, .sentinel, .sentinel, .sentinel, .sentinel, .sentinel], laidTests := true, laidLooks := .later }
def FnUnionCopiesUptoCardSaid : Prop := Claim7.holds Tryd.pinned (.plain (OpenSpec.upto fnUnionCopiesSpec)) fnUnionCopiesUptoCard

/-- THE SECOND FORM's CARD OF 'laws.FnUnionScript'. -/
def fnUnionScriptUptoCard : Claim7 := { stood := { row := fnUnionScriptUptoRow, standIns := [], harness := (true, "62346c58ea76b1d2f311900964233726ac7ecba868aacfb1fbcf3847cabe6ca1"), looks := true }, kinds := [], alts := [], laidByText := true, laidKinds := [.sentinel, .sentinel, .sentinel, .sentinel, .sentinel, .sentinel, .sentinel, .sentinel, .sentinel, .sentinel, .sentinel], laidTests := true, laidLooks := .later }
def FnUnionScriptUptoCardSaid : Prop := Claim7.holds Tryd.pinned (.plain (OpenSpec.upto fnUnionScriptSpec)) fnUnionScriptUptoCard
end Rows
end Go.Proofs.YteblpejgenehfaaDoor
