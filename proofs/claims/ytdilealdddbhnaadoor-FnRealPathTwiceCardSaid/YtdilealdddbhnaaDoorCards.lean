/-
  DERIVED. GIVEN WITH THE SEED: THE CARDS: each row of YtdilealdddbhnaaDoorRows.lean that lists a variable, with what it lists TIED to the program's text (the seventh form; the later family's looks); each row that meets fmt, with fmt's text TOLD by the authors' own Lean function (tested against real Go, not proved from fmt's source: count such statements apart). THE CARD IS WHAT COUNTS. Prove the row's statement (the work); the ties are given (YtdilealdddbhnaaDoorTie.lean); close each card by the builder's one call (the guide's Derived/Test/ToyasCard.lean, 'card_holds'). Laid BY PROGRAM, IN A SANDBOX (cutbox-door.mjs). By AI agents, Wed Nov 11 2026. No macro, syntax, notation, axiom, sorry.
-/
import Derived.Test.YtdilealdddbhnaaDoorRows
import GoSem.ClaimSeven
namespace Go.Proofs.YtdilealdddbhnaaDoor
namespace Rows

/-- THE TIED CARD OF 'laws.FnNameAhead'. -/
def fnNameAheadCard : Claim7 := { stood := { row := fnNameAheadRow, standIns := [], harness := (true, "ac481f3715fd911156434edf9dfdb01b234ee4accac25319d1e0da8da16090b9"), looks := true }, kinds := [], alts := [], laidByText := true, laidKinds := [.data], laidTests := true, laidLooks := .later }
def FnNameAheadCardSaid : Prop := Claim7.holds Tryd.pinned (.plain (OpenSpec.ofChange fnNameAheadSpec)) fnNameAheadCard

/-- THE TIED CARD OF 'laws.FnFitAll'. -/
def fnFitAllCard : Claim7 := { stood := { row := fnFitAllRow, standIns := [], harness := (true, "ac481f3715fd911156434edf9dfdb01b234ee4accac25319d1e0da8da16090b9"), looks := true }, kinds := [], alts := [], laidByText := true, laidKinds := [.data], laidTests := true, laidLooks := .later }
def FnFitAllCardSaid : Prop := Claim7.holds Tryd.pinned (.plain (OpenSpec.ofChange fnFitAllSpec)) fnFitAllCard

/-- THE TIED CARD OF 'laws.FnRealPathTwice'. -/
def fnRealPathTwiceCard : Claim7 := { stood := { row := fnRealPathTwiceRow, standIns := [], harness := (true, "ac481f3715fd911156434edf9dfdb01b234ee4accac25319d1e0da8da16090b9"), looks := true }, kinds := [], alts := [], laidByText := true, laidKinds := [.sentinel, .sentinel, .sentinel, .sentinel, .sentinel, .sentinel, .sentinel, .sentinel, .sentinel, .sentinel, .sentinel], laidTests := true, laidLooks := .later }
def FnRealPathTwiceCardSaid : Prop := Claim7.holds Tryd.pinned (.plain (OpenSpec.ofChange fnRealPathTwiceSpec)) fnRealPathTwiceCard

/-- THE SECOND FORM's CARD OF 'laws.FnNameAhead'. -/
def fnNameAheadUptoCard : Claim7 := { stood := { row := fnNameAheadUptoRow, standIns := [], harness := (true, "ac481f3715fd911156434edf9dfdb01b234ee4accac25319d1e0da8da16090b9"), looks := true }, kinds := [], alts := [], laidByText := true, laidKinds := [.data], laidTests := true, laidLooks := .later }
def FnNameAheadUptoCardSaid : Prop := Claim7.holds Tryd.pinned (.plain (OpenSpec.upto fnNameAheadSpec)) fnNameAheadUptoCard

/-- THE SECOND FORM's CARD OF 'laws.FnFitAll'. -/
def fnFitAllUptoCard : Claim7 := { stood := { row := fnFitAllUptoRow, standIns := [], harness := (true, "ac481f3715fd911156434edf9dfdb01b234ee4accac25319d1e0da8da16090b9"), looks := true }, kinds := [], alts := [], laidByText := true, laidKinds := [.data], laidTests := true, laidLooks := .later }
def FnFitAllUptoCardSaid : Prop := Claim7.holds Tryd.pinned (.plain (OpenSpec.upto fnFitAllSpec)) fnFitAllUptoCard

/-- THE SECOND FORM's CARD OF 'laws.FnRealPathTwice'. -/
def fnRealPathTwiceUptoCard : Claim7 := { stood := { row := fnRealPathTwiceUptoRow, standIns := [], harness := (true, "ac481f3715fd911156434edf9dfdb01b234ee4accac25319d1e0da8da16090b9"), looks := true }, kinds := [], alts := [], laidByText := true, laidKinds := [.sentinel, .sentinel, .sentinel, .sentinel, .sentinel, .sentinel, .sentinel, .sentinel, .sentinel, .sentinel, .sentinel], laidTests := true, laidLooks := .later }
def FnRealPathTwiceUptoCardSaid : Prop := Claim7.holds Tryd.pinned (.plain (OpenSpec.upto fnRealPathTwiceSpec)) fnRealPathTwiceUptoCard
end Rows
end Go.Proofs.YtdilealdddbhnaaDoor
