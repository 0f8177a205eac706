/-
  NARROWER THAN 'FOR EVERY INPUT', by the rows' own cells (each row's printed sentence says how): FnFitAll: laid.
  DERIVED. THE GIVEN ROWS OF THIS SEAT. 1 by the template 'for every input the law returns true; each argument reads behind the call as it read before'; 0 by the template 'total and deterministic' (their statements: YtfiepdikejoeeaaDoorTotals.lean).
  GIVEN WITH THE SEED: the statements are not yours to turn. If you find one false, say at which input.
  Laid BY PROGRAM, IN A SANDBOX (cutbox-rows.mjs): the forced cells as the released guide's own fill.sh prints them over the translation e9e7162696e14ec2… (all of the seat's roots in one cut). By AI agents, Wed Nov 11 2026. No macro, syntax, notation, axiom, sorry.
-/
import Derived.Test.YtfiepdikejoeeaaDoorChecked
import GoSem.Claim
import GoSem.ClaimJoined
import GoSem.ClaimMapViews
import Derived.JoinedTies
import Derived.KernelRfl
namespace Go.Proofs.YtfiepdikejoeeaaDoor
/- THE CELL 'sum', in the pinned program and in every row, IS THE sha256 OF THE DUMP (.gsa) THAT YtfiepdikejoeeaaDoorProg.lean LOADS. Nothing in Lean hashes anything: it is a label: what it is worth is what the hold of that sum in a sandbox is worth. -/
noncomputable def Tryd.pinned : Pinned := { name := "ytfiepdikejoeeaadoor", sum := "e9e7162696e14ec236a1135dc49f4956f4e25cf715c0e3cefb34c60c3cedce60", checked := Tryd.checked }
namespace Rows
def none {H : Type} : Left H := { results := [], args := [] }

/- WHAT THE LISTED PACKAGE-LEVEL VARIABLES READ AS WHEN THE CALL BEGINS. Each datum BY PROGRAM (the guide's laid-datum.mjs) off the statement by which the dump's own 'gosem.cut.vars' lays the variable. In a bare row this is a premise. The card (YtfiepdikejoeeaaDoorCards.lean) ties it to the program's text. -/
def laid_pub_marram_pub_hcsshim_ext4_inner_compactext4_xattrPrefixes {H : Type} : DataW H := .agg [.agg [.lit (.int .u8 2), .lit (.string [115, 121, 115, 116, 101, 109, 46, 112, 111, 115, 105, 120, 95, 97, 99, 108, 95, 97, 99, 99, 101, 115, 115])], .agg [.lit (.int .u8 3), .lit (.string [115, 121, 115, 116, 101, 109, 46, 112, 111, 115, 105, 120, 95, 97, 99, 108, 95, 100, 101, 102, 97, 117, 108, 116])], .agg [.lit (.int .u8 8), .lit (.string [115, 121, 115, 116, 101, 109, 46, 114, 105, 99, 104, 97, 99, 108])], .agg [.lit (.int .u8 7), .lit (.string [115, 121, 115, 116, 101, 109, 46])], .agg [.lit (.int .u8 1), .lit (.string [117, 115, 101, 114, 46])], .agg [.lit (.int .u8 4), .lit (.string [116, 114, 117, 115, 116, 101, 100, 46])], .agg [.lit (.int .u8 6), .lit (.string [115, 101, 99, 117, 114, 105, 116, 121, 46])]]

/-- 'laws.FnFitAll': WHATEVER THE INPUT: true; the input reads as it did. -/
def fnFitAllSpec : ChangeSpec := { name := "fnFitAll", fn := fun _ => fun
  | [d] => { results := [.lit (.bool true)], args := [d] }
  | _ => none }
def fnFitAllRow : OpenClaim := { program := "ytfiepdikejoeeaadoor", sum := "e9e7162696e14ec236a1135dc49f4956f4e25cf715c0e3cefb34c60c3cedce60", func := "pub-marram/laws.FnFitAll", spec := "fnFitAll", named := ["pub-marram/pub/hcsshim/ext4/inner/compactext4.xattrPrefixes"], apart := false, laid := [("pub-marram/pub/hcsshim/ext4/inner/compactext4.xattrPrefixes", laid_pub_marram_pub_hcsshim_ext4_inner_compactext4_xattrPrefixes)] }
def FnFitAllSaid : Prop := fnFitAllRow.holds Tryd.pinned (OpenSpec.ofChange fnFitAllSpec)

/-- ITS FALSE NEIGHBOUR: 'it returns false'. Refute it at one input. -/
def fnFitAllWrong : ChangeSpec := { name := "fnFitAll", fn := fun _ => fun
  | [d] => { results := [.lit (.bool false)], args := [d] }
  | _ => none }
def FnFitAllWrongFalsely : Prop := fnFitAllRow.holds Tryd.pinned (OpenSpec.ofChange fnFitAllWrong)

/- THE SECOND FORM. 'bulk': how many values and letters a reading holds, each counted each time it is reached (what is shared counts as often as it is met; a slice's spare places count too). A statement '..UptoSaid' is the law's where the arguments, and the package variables that the reading takes, are together of bulk at most 1048576: NARROWER than '..Said'. Prove '..Said' where nothing that the law and all that it calls make is longer than what came in: it says more and counts as full. Else prove '..UptoSaid'. A law counts once. -/
mutual
def uptoBulk {H : Type} : DataW H → Nat
  | .lit (.string bytes) => bytes.length + 1
  | .lit _ => 1
  | .nil => 1
  | .ptr d => uptoBulk d + 1
  | .slice elems spare => uptoBulkAll elems + uptoBulkAll spare + 1
  | .agg parts => uptoBulkAll parts + 1
  | .iface _ d => uptoBulk d + 1
  | .map entries => uptoBulkEntries entries + 1
  | .held _ => 1
def uptoBulkAll {H : Type} : List (DataW H) → Nat
  | [] => 0
  | d :: r => uptoBulk d + uptoBulkAll r
def uptoBulkEntries {H : Type} : List (Lit × DataW H) → Nat
  | [] => 0
  | x :: r => uptoBulkEntry x + uptoBulkEntries r
def uptoBulkEntry {H : Type} : Lit × DataW H → Nat
  | (.string bytes, d) => bytes.length + uptoBulk d + 1
  | (_, d) => uptoBulk d + 1
 end
def uptoSmall : (H : Type) → List (DataW H) → Bool := fun _ ds => decide (uptoBulkAll ds ≤ 1048576)
def OpenSpec.upto (s : _root_.Go.ChangeSpec) : _root_.Go.OpenSpec := { _root_.Go.OpenSpec.ofChange s with cond := some uptoSmall }

/-- 'laws.FnFitAll', WHERE WHAT IT READS IS OF BULK AT MOST 1048576: true; the input reads as it did. -/
def fnFitAllUptoRow : OpenClaim := { program := "ytfiepdikejoeeaadoor", sum := "e9e7162696e14ec236a1135dc49f4956f4e25cf715c0e3cefb34c60c3cedce60", func := "pub-marram/laws.FnFitAll", spec := "fnFitAll", named := ["pub-marram/pub/hcsshim/ext4/inner/compactext4.xattrPrefixes"], apart := false, laid := [("pub-marram/pub/hcsshim/ext4/inner/compactext4.xattrPrefixes", laid_pub_marram_pub_hcsshim_ext4_inner_compactext4_xattrPrefixes)], narrowed := true }
def FnFitAllUptoSaid : Prop := fnFitAllUptoRow.holds Tryd.pinned (OpenSpec.upto fnFitAllSpec)

end Rows
end Go.Proofs.YtfiepdikejoeeaaDoor
