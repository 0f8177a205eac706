/-
  No cell of these rows narrows 'for every input' (looked for: loops, veiled, ifaces, maps, wideKeys, modest, calm, conditions, laid).
  DERIVED. THE GIVEN ROWS OF THIS SEAT. 9 by the template 'for every input the law returns true; each argument reads behind the call as it read before'; 0 by the template 'total and deterministic' (their statements: YtdilealdddbhnaaTotals.lean).
  GIVEN WITH THE SEED: the statements are not yours to turn. If you find one false, say at which input.
  Laid BY PROGRAM, IN A SANDBOX (cutbox-rows.mjs): the forced cells as the released guide's own fill.sh prints them over the translation 8c5ac7b1be14c1fb… (all of the seat's roots in one cut). By AI agents, Wed Nov 11 2026. No macro, syntax, notation, axiom, sorry.
-/
import Derived.Test.YtdilealdddbhnaaChecked
import GoSem.Claim
import GoSem.ClaimJoined
import GoSem.ClaimMapViews
import Derived.JoinedTies
import Derived.KernelRfl
namespace Go.Proofs.Ytdilealdddbhnaa
/- THE CELL 'sum', in the pinned program and in every row, IS THE sha256 OF THE DUMP (.gsa) THAT YtdilealdddbhnaaProg.lean LOADS. Nothing in Lean hashes anything: it is a label: what it is worth is what the hold of that sum in a sandbox is worth. -/
noncomputable def Try.pinned : Pinned := { name := "ytdilealdddbhnaa", sum := "8c5ac7b1be14c1fb3cd0cc8673b0a2474ae0c4cabf6e9d5810cf7548fe5668f3", checked := Try.checked }
namespace Rows
def none {H : Type} : Left H := { results := [], args := [] }

/-- 'laws.FnSplitFirst': WHATEVER THE INPUT: true; the input reads as it did. -/
def fnSplitFirstSpec : ChangeSpec := { name := "fnSplitFirst", fn := fun _ => fun
  | [d] => { results := [.lit (.bool true)], args := [d] }
  | _ => none }
def fnSplitFirstRow : OpenClaim := { program := "ytdilealdddbhnaa", sum := "8c5ac7b1be14c1fb3cd0cc8673b0a2474ae0c4cabf6e9d5810cf7548fe5668f3", func := "pub-marram/laws.FnSplitFirst", spec := "fnSplitFirst", inPlace := ["internal/bytealg.IndexByteString"], apart := false }
def FnSplitFirstSaid : Prop := fnSplitFirstRow.holds Try.pinned (OpenSpec.ofChange fnSplitFirstSpec)

/-- ITS FALSE NEIGHBOUR: 'it returns false'. Refute it at one input. -/
def fnSplitFirstWrong : ChangeSpec := { name := "fnSplitFirst", fn := fun _ => fun
  | [d] => { results := [.lit (.bool false)], args := [d] }
  | _ => none }
def FnSplitFirstWrongFalsely : Prop := fnSplitFirstRow.holds Try.pinned (OpenSpec.ofChange fnSplitFirstWrong)

/-- 'laws.FnMetaJoined': WHATEVER THE INPUT: true; the input reads as it did. -/
def fnMetaJoinedSpec : ChangeSpec := { name := "fnMetaJoined", fn := fun _ => fun
  | [d1, d2] => { results := [.lit (.bool true)], args := [d1, d2] }
  | _ => none }
def fnMetaJoinedRow : OpenClaim := { program := "ytdilealdddbhnaa", sum := "8c5ac7b1be14c1fb3cd0cc8673b0a2474ae0c4cabf6e9d5810cf7548fe5668f3", func := "pub-marram/laws.FnMetaJoined", spec := "fnMetaJoined", apart := false }
def FnMetaJoinedSaid : Prop := fnMetaJoinedRow.holds Try.pinned (OpenSpec.ofChange fnMetaJoinedSpec)

/-- ITS FALSE NEIGHBOUR: 'it returns false'. Refute it at one input. -/
def fnMetaJoinedWrong : ChangeSpec := { name := "fnMetaJoined", fn := fun _ => fun
  | [d1, d2] => { results := [.lit (.bool false)], args := [d1, d2] }
  | _ => none }
def FnMetaJoinedWrongFalsely : Prop := fnMetaJoinedRow.holds Try.pinned (OpenSpec.ofChange fnMetaJoinedWrong)

/-- 'laws.FnGroups': WHATEVER THE INPUT: true; the input reads as it did. -/
def fnGroupsSpec : ChangeSpec := { name := "fnGroups", fn := fun _ => fun
  | [d1, d2, d3] => { results := [.lit (.bool true)], args := [d1, d2, d3] }
  | _ => none }
def fnGroupsRow : OpenClaim := { program := "ytdilealdddbhnaa", sum := "8c5ac7b1be14c1fb3cd0cc8673b0a2474ae0c4cabf6e9d5810cf7548fe5668f3", func := "pub-marram/laws.FnGroups", spec := "fnGroups", apart := false }
def FnGroupsSaid : Prop := fnGroupsRow.holds Try.pinned (OpenSpec.ofChange fnGroupsSpec)

/-- ITS FALSE NEIGHBOUR: 'it returns false'. Refute it at one input. -/
def fnGroupsWrong : ChangeSpec := { name := "fnGroups", fn := fun _ => fun
  | [d1, d2, d3] => { results := [.lit (.bool false)], args := [d1, d2, d3] }
  | _ => none }
def FnGroupsWrongFalsely : Prop := fnGroupsRow.holds Try.pinned (OpenSpec.ofChange fnGroupsWrong)

/-- 'laws.FnAttributeHash': WHATEVER THE INPUT: true; the input reads as it did. -/
def fnAttributeHashSpec : ChangeSpec := { name := "fnAttributeHash", fn := fun _ => fun
  | [d1, d2] => { results := [.lit (.bool true)], args := [d1, d2] }
  | _ => none }
def fnAttributeHashRow : OpenClaim := { program := "ytdilealdddbhnaa", sum := "8c5ac7b1be14c1fb3cd0cc8673b0a2474ae0c4cabf6e9d5810cf7548fe5668f3", func := "pub-marram/laws.FnAttributeHash", spec := "fnAttributeHash", apart := false }
def FnAttributeHashSaid : Prop := fnAttributeHashRow.holds Try.pinned (OpenSpec.ofChange fnAttributeHashSpec)

/-- ITS FALSE NEIGHBOUR: 'it returns false'. Refute it at one input. -/
def fnAttributeHashWrong : ChangeSpec := { name := "fnAttributeHash", fn := fun _ => fun
  | [d1, d2] => { results := [.lit (.bool false)], args := [d1, d2] }
  | _ => none }
def FnAttributeHashWrongFalsely : Prop := fnAttributeHashRow.holds Try.pinned (OpenSpec.ofChange fnAttributeHashWrong)

/-- 'laws.FnTimeBack': WHATEVER THE INPUT: true; the input reads as it did. -/
def fnTimeBackSpec : ChangeSpec := { name := "fnTimeBack", fn := fun _ => fun
  | [d] => { results := [.lit (.bool true)], args := [d] }
  | _ => none }
def fnTimeBackRow : OpenClaim := { program := "ytdilealdddbhnaa", sum := "8c5ac7b1be14c1fb3cd0cc8673b0a2474ae0c4cabf6e9d5810cf7548fe5668f3", func := "pub-marram/laws.FnTimeBack", spec := "fnTimeBack", apart := false }
def FnTimeBackSaid : Prop := fnTimeBackRow.holds Try.pinned (OpenSpec.ofChange fnTimeBackSpec)

/-- ITS FALSE NEIGHBOUR: 'it returns false'. Refute it at one input. -/
def fnTimeBackWrong : ChangeSpec := { name := "fnTimeBack", fn := fun _ => fun
  | [d] => { results := [.lit (.bool false)], args := [d] }
  | _ => none }
def FnTimeBackWrongFalsely : Prop := fnTimeBackRow.holds Try.pinned (OpenSpec.ofChange fnTimeBackWrong)

/-- 'laws.FnExtents': WHATEVER THE INPUT: true; the input reads as it did. -/
def fnExtentsSpec : ChangeSpec := { name := "fnExtents", fn := fun _ => fun
  | [d1, d2, d3, d4] => { results := [.lit (.bool true)], args := [d1, d2, d3, d4] }
  | _ => none }
def fnExtentsRow : OpenClaim := { program := "ytdilealdddbhnaa", sum := "8c5ac7b1be14c1fb3cd0cc8673b0a2474ae0c4cabf6e9d5810cf7548fe5668f3", func := "pub-marram/laws.FnExtents", spec := "fnExtents", apart := false }
def FnExtentsSaid : Prop := fnExtentsRow.holds Try.pinned (OpenSpec.ofChange fnExtentsSpec)

/-- ITS FALSE NEIGHBOUR: 'it returns false'. Refute it at one input. -/
def fnExtentsWrong : ChangeSpec := { name := "fnExtents", fn := fun _ => fun
  | [d1, d2, d3, d4] => { results := [.lit (.bool false)], args := [d1, d2, d3, d4] }
  | _ => none }
def FnExtentsWrongFalsely : Prop := fnExtentsRow.holds Try.pinned (OpenSpec.ofChange fnExtentsWrong)

/-- 'laws.FnGroupsGrow': WHATEVER THE INPUT: true; the input reads as it did. -/
def fnGroupsGrowSpec : ChangeSpec := { name := "fnGroupsGrow", fn := fun _ => fun
  | [d1, d2, d3, d4, d5] => { results := [.lit (.bool true)], args := [d1, d2, d3, d4, d5] }
  | _ => none }
def fnGroupsGrowRow : OpenClaim := { program := "ytdilealdddbhnaa", sum := "8c5ac7b1be14c1fb3cd0cc8673b0a2474ae0c4cabf6e9d5810cf7548fe5668f3", func := "pub-marram/laws.FnGroupsGrow", spec := "fnGroupsGrow", apart := false }
def FnGroupsGrowSaid : Prop := fnGroupsGrowRow.holds Try.pinned (OpenSpec.ofChange fnGroupsGrowSpec)

/-- ITS FALSE NEIGHBOUR: 'it returns false'. Refute it at one input. -/
def fnGroupsGrowWrong : ChangeSpec := { name := "fnGroupsGrow", fn := fun _ => fun
  | [d1, d2, d3, d4, d5] => { results := [.lit (.bool false)], args := [d1, d2, d3, d4, d5] }
  | _ => none }
def FnGroupsGrowWrongFalsely : Prop := fnGroupsGrowRow.holds Try.pinned (OpenSpec.ofChange fnGroupsGrowWrong)

/-- 'laws.FnMergeNothing': WHATEVER THE INPUT: true; the input reads as it did. -/
def fnMergeNothingSpec : ChangeSpec := { name := "fnMergeNothing", fn := fun _ => fun
  | [d] => { results := [.lit (.bool true)], args := [d] }
  | _ => none }
def fnMergeNothingRow : OpenClaim := { program := "ytdilealdddbhnaa", sum := "8c5ac7b1be14c1fb3cd0cc8673b0a2474ae0c4cabf6e9d5810cf7548fe5668f3", func := "pub-marram/laws.FnMergeNothing", spec := "fnMergeNothing", apart := false }
def FnMergeNothingSaid : Prop := fnMergeNothingRow.holds Try.pinned (OpenSpec.ofChange fnMergeNothingSpec)

/-- ITS FALSE NEIGHBOUR: 'it returns false'. Refute it at one input. -/
def fnMergeNothingWrong : ChangeSpec := { name := "fnMergeNothing", fn := fun _ => fun
  | [d] => { results := [.lit (.bool false)], args := [d] }
  | _ => none }
def FnMergeNothingWrongFalsely : Prop := fnMergeNothingRow.holds Try.pinned (OpenSpec.ofChange fnMergeNothingWrong)

/-- 'laws.FnNormalize': WHATEVER THE INPUT: true; the input reads as it did. -/
def fnNormalizeSpec : ChangeSpec := { name := "fnNormalize", fn := fun _ => fun
  | [d] => { results := [.lit (.bool true)], args := [d] }
  | _ => none }
def fnNormalizeRow : OpenClaim := { program := "ytdilealdddbhnaa", sum := "8c5ac7b1be14c1fb3cd0cc8673b0a2474ae0c4cabf6e9d5810cf7548fe5668f3", func := "pub-marram/laws.FnNormalize", spec := "fnNormalize", apart := false }
def FnNormalizeSaid : Prop := fnNormalizeRow.holds Try.pinned (OpenSpec.ofChange fnNormalizeSpec)

/-- ITS FALSE NEIGHBOUR: 'it returns false'. Refute it at one input. -/
def fnNormalizeWrong : ChangeSpec := { name := "fnNormalize", fn := fun _ => fun
  | [d] => { results := [.lit (.bool false)], args := [d] }
  | _ => none }
def FnNormalizeWrongFalsely : Prop := fnNormalizeRow.holds Try.pinned (OpenSpec.ofChange fnNormalizeWrong)

/- THE SECOND FORM. 'bulk': how many values and letters a reading holds, each counted each time it is reached (what is shared counts as often as it is met; a slice's spare places count too). A statement '..UptoSaid' is the law's where the arguments, and the package variables that the reading takes, are together of bulk at most 1048576: NARROWER than '..Said'. Prove '..Said' where nothing that the law and all that it calls make is longer than what came in: it says more and counts as full. Else prove '..UptoSaid'. A law counts once. -/
mutual
def uptoBulk {H : Type} : DataW H → Nat
  | .lit (.string bytes) => bytes.length + 1
  | .lit _ => 1
  | .nil => 1
  | .ptr d => uptoBulk d + 1
  | .slice elems spare => uptoBulkAll elems + uptoBulkAll spare + 1
  | .agg parts => uptoBulkAll parts + 1
  | .iface _ d => uptoBulk d + 1
  | .map entries => uptoBulkEntries entries + 1
  | .held _ => 1
def uptoBulkAll {H : Type} : List (DataW H) → Nat
  | [] => 0
  | d :: r => uptoBulk d + uptoBulkAll r
def uptoBulkEntries {H : Type} : List (Lit × DataW H) → Nat
  | [] => 0
  | x :: r => uptoBulkEntry x + uptoBulkEntries r
def uptoBulkEntry {H : Type} : Lit × DataW H → Nat
  | (.string bytes, d) => bytes.length + uptoBulk d + 1
  | (_, d) => uptoBulk d + 1
 end
def uptoSmall : (H : Type) → List (DataW H) → Bool := fun _ ds => decide (uptoBulkAll ds ≤ 1048576)
def OpenSpec.upto (s : _root_.Go.ChangeSpec) : _root_.Go.OpenSpec := { _root_.Go.OpenSpec.ofChange s with cond := some uptoSmall }

/-- 'laws.FnSplitFirst', WHERE WHAT IT READS IS OF BULK AT MOST 1048576: true; the input reads as it did. -/
def fnSplitFirstUptoRow : OpenClaim := { program := "ytdilealdddbhnaa", sum := "8c5ac7b1be14c1fb3cd0cc8673b0a2474ae0c4cabf6e9d5810cf7548fe5668f3", func := "pub-marram/laws.FnSplitFirst", spec := "fnSplitFirst", inPlace := ["internal/bytealg.IndexByteString"], apart := false, narrowed := true }
def FnSplitFirstUptoSaid : Prop := fnSplitFirstUptoRow.holds Try.pinned (OpenSpec.upto fnSplitFirstSpec)

/-- 'laws.FnMetaJoined', WHERE WHAT IT READS IS OF BULK AT MOST 1048576: true; the input reads as it did. -/
def fnMetaJoinedUptoRow : OpenClaim := { program := "ytdilealdddbhnaa", sum := "8c5ac7b1be14c1fb3cd0cc8673b0a2474ae0c4cabf6e9d5810cf7548fe5668f3", func := "pub-marram/laws.FnMetaJoined", spec := "fnMetaJoined", apart := false, narrowed := true }
def FnMetaJoinedUptoSaid : Prop := fnMetaJoinedUptoRow.holds Try.pinned (OpenSpec.upto fnMetaJoinedSpec)

/-- 'laws.FnGroups', WHERE WHAT IT READS IS OF BULK AT MOST 1048576: true; the input reads as it did. -/
def fnGroupsUptoRow : OpenClaim := { program := "ytdilealdddbhnaa", sum := "8c5ac7b1be14c1fb3cd0cc8673b0a2474ae0c4cabf6e9d5810cf7548fe5668f3", func := "pub-marram/laws.FnGroups", spec := "fnGroups", apart := false, narrowed := true }
def FnGroupsUptoSaid : Prop := fnGroupsUptoRow.holds Try.pinned (OpenSpec.upto fnGroupsSpec)

/-- 'laws.FnAttributeHash', WHERE WHAT IT READS IS OF BULK AT MOST 1048576: true; the input reads as it did. -/
def fnAttributeHashUptoRow : OpenClaim := { program := "ytdilealdddbhnaa", sum := "8c5ac7b1be14c1fb3cd0cc8673b0a2474ae0c4cabf6e9d5810cf7548fe5668f3", func := "pub-marram/laws.FnAttributeHash", spec := "fnAttributeHash", apart := false, narrowed := true }
def FnAttributeHashUptoSaid : Prop := fnAttributeHashUptoRow.holds Try.pinned (OpenSpec.upto fnAttributeHashSpec)

/-- 'laws.FnTimeBack', WHERE WHAT IT READS IS OF BULK AT MOST 1048576: true; the input reads as it did. -/
def fnTimeBackUptoRow : OpenClaim := { program := "ytdilealdddbhnaa", sum := "8c5ac7b1be14c1fb3cd0cc8673b0a2474ae0c4cabf6e9d5810cf7548fe5668f3", func := "pub-marram/laws.FnTimeBack", spec := "fnTimeBack", apart := false, narrowed := true }
def FnTimeBackUptoSaid : Prop := fnTimeBackUptoRow.holds Try.pinned (OpenSpec.upto fnTimeBackSpec)

/-- 'laws.FnExtents', WHERE WHAT IT READS IS OF BULK AT MOST 1048576: true; the input reads as it did. -/
def fnExtentsUptoRow : OpenClaim := { program := "ytdilealdddbhnaa", sum := "8c5ac7b1be14c1fb3cd0cc8673b0a2474ae0c4cabf6e9d5810cf7548fe5668f3", func := "pub-marram/laws.FnExtents", spec := "fnExtents", apart := false, narrowed := true }
def FnExtentsUptoSaid : Prop := fnExtentsUptoRow.holds Try.pinned (OpenSpec.upto fnExtentsSpec)

/-- 'laws.FnGroupsGrow', WHERE WHAT IT READS IS OF BULK AT MOST 1048576: true; the input reads as it did. -/
def fnGroupsGrowUptoRow : OpenClaim := { program := "ytdilealdddbhnaa", sum := "8c5ac7b1be14c1fb3cd0cc8673b0a2474ae0c4cabf6e9d5810cf7548fe5668f3", func := "pub-marram/laws.FnGroupsGrow", spec := "fnGroupsGrow", apart := false, narrowed := true }
def FnGroupsGrowUptoSaid : Prop := fnGroupsGrowUptoRow.holds Try.pinned (OpenSpec.upto fnGroupsGrowSpec)

/-- 'laws.FnMergeNothing', WHERE WHAT IT READS IS OF BULK AT MOST 1048576: true; the input reads as it did. -/
def fnMergeNothingUptoRow : OpenClaim := { program := "ytdilealdddbhnaa", sum := "8c5ac7b1be14c1fb3cd0cc8673b0a2474ae0c4cabf6e9d5810cf7548fe5668f3", func := "pub-marram/laws.FnMergeNothing", spec := "fnMergeNothing", apart := false, narrowed := true }
def FnMergeNothingUptoSaid : Prop := fnMergeNothingUptoRow.holds Try.pinned (OpenSpec.upto fnMergeNothingSpec)

/-- 'laws.FnNormalize', WHERE WHAT IT READS IS OF BULK AT MOST 1048576: true; the input reads as it did. -/
def fnNormalizeUptoRow : OpenClaim := { program := "ytdilealdddbhnaa", sum := "8c5ac7b1be14c1fb3cd0cc8673b0a2474ae0c4cabf6e9d5810cf7548fe5668f3", func := "pub-marram/laws.FnNormalize", spec := "fnNormalize", apart := false, narrowed := true }
def FnNormalizeUptoSaid : Prop := fnNormalizeUptoRow.holds Try.pinned (OpenSpec.upto fnNormalizeSpec)

end Rows
end Go.Proofs.Ytdilealdddbhnaa
