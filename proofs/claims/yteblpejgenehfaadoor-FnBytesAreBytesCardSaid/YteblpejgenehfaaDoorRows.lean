/-
  NARROWER THAN 'FOR EVERY INPUT', by the rows' own cells (each row's printed sentence says how): FnBytesAreBytes: laid · FnReadIsReadAt: laid · FnReadOnlyHandle: laid · FnReadToTheEnd: laid · FnSeekMoves: laid · FnUnionAlike: laid · FnUnionCopies: laid · FnUnionScript: laid.
  DERIVED. THE GIVEN ROWS OF THIS SEAT. 8 by the template 'for every input the law returns true; each argument reads behind the call as it read before'; 0 by the template 'total and deterministic' (their statements: YteblpejgenehfaaDoorTotals.lean).
  GIVEN WITH THE SEED: the statements are not yours to turn. If you find one false, say at which input.
  Laid BY PROGRAM, IN A SANDBOX (cutbox-rows.mjs): the forced cells as the released guide's own fill.sh prints them over the translation f2baecb4ae9a88d4… (all of the seat's roots in one cut). By AI agents, Wed Nov 11 2026. No macro, syntax, notation, axiom, sorry.
-/
import Derived.Test.YteblpejgenehfaaDoorChecked
import GoSem.Claim
import GoSem.ClaimJoined
import GoSem.ClaimMapViews
import Derived.JoinedTies
import Derived.KernelRfl
namespace Go.Proofs.YteblpejgenehfaaDoor
/- THE CELL 'sum', in the pinned program and in every row, IS THE sha256 OF THE DUMP (.gsa) THAT YteblpejgenehfaaDoorProg.lean LOADS. Nothing in Lean hashes anything: it is a label: what it is worth is what the hold of that sum in a sandbox is worth. -/
noncomputable def Tryd.pinned : Pinned := { name := "yteblpejgenehfaadoor", sum := "f2baecb4ae9a88d4da5acb70a87b57234e36a81df448746c3595266356e19b11", checked := Tryd.checked }
namespace Rows
def none {H : Type} : Left H := { results := [], args := [] }

/- WHAT THE LISTED PACKAGE-LEVEL VARIABLES READ AS WHEN THE CALL BEGINS. Each datum BY PROGRAM (the guide's laid-datum.mjs) off the statement by which the dump's own 'gosem.cut.vars' lays the variable. In a bare row this is a premise. The card (YteblpejgenehfaaDoorCards.lean) ties it to the program's text. -/
def laid_pub_marram_pub_afero_inner_os_ErrExist {H : Type} : DataW H := .iface "*errors.errorString" (.ptr (.agg [.lit (.string [102, 105, 108, 101, 32, 97, 108, 114, 101, 97, 100, 121, 32, 101, 120, 105, 115, 116, 115])]))
def laid_pub_marram_pub_afero_inner_os_ErrNotExist {H : Type} : DataW H := .iface "*errors.errorString" (.ptr (.agg [.lit (.string [102, 105, 108, 101, 32, 100, 111, 101, 115, 32, 110, 111, 116, 32, 101, 120, 105, 115, 116])]))
def laid_pub_marram_pub_afero_inner_os_ENOENT {H : Type} : DataW H := .iface "*errors.errorString" (.ptr (.agg [.lit (.string [110, 111, 32, 115, 117, 99, 104, 32, 102, 105, 108, 101, 32, 111, 114, 32, 100, 105, 114, 101, 99, 116, 111, 114, 121])]))
def laid_pub_marram_pub_afero_inner_os_ENOTDIR {H : Type} : DataW H := .iface "*errors.errorString" (.ptr (.agg [.lit (.string [110, 111, 116, 32, 97, 32, 100, 105, 114, 101, 99, 116, 111, 114, 121])]))
def laid_pub_marram_pub_afero_inner_os_EPERM {H : Type} : DataW H := .iface "*errors.errorString" (.ptr (.agg [.lit (.string [111, 112, 101, 114, 97, 116, 105, 111, 110, 32, 110, 111, 116, 32, 112, 101, 114, 109, 105, 116, 116, 101, 100])]))
def laid_pub_marram_pub_afero_inner_os_EIO {H : Type} : DataW H := .iface "*errors.errorString" (.ptr (.agg [.lit (.string [105, 110, 112, 117, 116, 47, 111, 117, 116, 112, 117, 116, 32, 101, 114, 114, 111, 114])]))
def laid_pub_marram_pub_afero_inner_os_EBADFD {H : Type} : DataW H := .iface "*errors.errorString" (.ptr (.agg [.lit (.string [102, 105, 108, 101, 32, 100, 101, 115, 99, 114, 105, 112, 116, 111, 114, 32, 105, 110, 32, 98, 97, 100, 32, 115, 116, 97, 116, 101])]))
def laid_io_EOF {H : Type} : DataW H := .iface "*errors.errorString" (.ptr (.agg [.lit (.string [69, 79, 70])]))
def laid_io_ErrUnexpectedEOF {H : Type} : DataW H := .iface "*errors.errorString" (.ptr (.agg [.lit (.string [117, 110, 101, 120, 112, 101, 99, 116, 101, 100, 32, 69, 79, 70])]))
def laid_pub_marram_pub_afero_mem_ErrFileClosed {H : Type} : DataW H := .iface "*errors.errorString" (.ptr (.agg [.lit (.string [70, 105, 108, 101, 32, 105, 115, 32, 99, 108, 111, 115, 101, 100])]))
def laid_pub_marram_pub_afero_mem_ErrOutOfRange {H : Type} : DataW H := .iface "*errors.errorString" (.ptr (.agg [.lit (.string [111, 117, 116, 32, 111, 102, 32, 114, 97, 110, 103, 101])]))

/-- 'laws.FnBytesAreBytes': WHATEVER THE INPUT: true; the input reads as it did. -/
def fnBytesAreBytesSpec : ChangeSpec := { name := "fnBytesAreBytes", fn := fun _ => fun
  | [d1, d2, d3, d4] => { results := [.lit (.bool true)], args := [d1, d2, d3, d4] }
  | _ => none }
def fnBytesAreBytesRow : OpenClaim := { program := "yteblpejgenehfaadoor", sum := "f2baecb4ae9a88d4da5acb70a87b57234e36a81df448746c3595266356e19b11", func := "pub-marram/laws.FnBytesAreBytes", spec := "fnBytesAreBytes", recurses := true, named := ["pub-marram/pub/afero/mem.ErrFileClosed", "io.EOF", "io.ErrUnexpectedEOF", "pub-marram/pub/afero/mem.ErrOutOfRange", "pub-marram/pub/afero/inner/os.ErrNotExist", "pub-marram/pub/afero/inner/os.ErrExist", "pub-marram/pub/afero/inner/os.ENOTDIR", "pub-marram/pub/afero/inner/os.ENOENT", "pub-marram/pub/afero/inner/os.EPERM", "pub-marram/pub/afero/inner/os.EBADFD", "pub-marram/pub/afero/inner/os.EIO"], apart := false, laid := [("pub-marram/pub/afero/inner/os.ErrExist", laid_pub_marram_pub_afero_inner_os_ErrExist), ("pub-marram/pub/afero/inner/os.ErrNotExist", laid_pub_marram_pub_afero_inner_os_ErrNotExist), ("pub-marram/pub/afero/inner/os.ENOENT", laid_pub_marram_pub_afero_inner_os_ENOENT), ("pub-marram/pub/afero/inner/os.ENOTDIR", laid_pub_marram_pub_afero_inner_os_ENOTDIR), ("pub-marram/pub/afero/inner/os.EPERM", laid_pub_marram_pub_afero_inner_os_EPERM), ("pub-marram/pub/afero/inner/os.EIO", laid_pub_marram_pub_afero_inner_os_EIO), ("pub-marram/pub/afero/inner/os.EBADFD", laid_pub_marram_pub_afero_inner_os_EBADFD), ("io.EOF", laid_io_EOF), ("io.ErrUnexpectedEOF", laid_io_ErrUnexpectedEOF), ("pub-marram/pub/afero/mem.ErrFileClosed", laid_pub_marram_pub_afero_mem_ErrFileClosed), ("pub-marram/pub/afero/mem.ErrOutOfRange", laid_pub_marram_pub_afero_mem_ErrOutOfRange)] }
def FnBytesAreBytesSaid : Prop := fnBytesAreBytesRow.holds Tryd.pinned (OpenSpec.ofChange fnBytesAreBytesSpec)

/-- ITS FALSE NEIGHBOUR: 'it returns false'. Refute it at one input. -/
def fnBytesAreBytesWrong : ChangeSpec := { name := "fnBytesAreBytes", fn := fun _ => fun
  | [d1, d2, d3, d4] => { results := [.lit (.bool false)], args := [d1, d2, d3, d4] }
  | _ => none }
def FnBytesAreBytesWrongFalsely : Prop := fnBytesAreBytesRow.holds Tryd.pinned (OpenSpec.ofChange fnBytesAreBytesWrong)

/-- 'laws.FnReadIsReadAt': WHATEVER THE INPUT: true; the input reads as it did. -/
def fnReadIsReadAtSpec : ChangeSpec := { name := "fnReadIsReadAt", fn := fun _ => fun
  | [d1, d2, d3, d4] => { results := [.lit (.bool true)], args := [d1, d2, d3, d4] }
  | _ => none }
def fnReadIsReadAtRow : OpenClaim := { program := "yteblpejgenehfaadoor", sum := "f2baecb4ae9a88d4da5acb70a87b57234e36a81df448746c3595266356e19b11", func := "pub-marram/laws.FnReadIsReadAt", spec := "fnReadIsReadAt", named := ["pub-marram/pub/afero/mem.ErrFileClosed", "io.EOF", "io.ErrUnexpectedEOF", "pub-marram/pub/afero/mem.ErrOutOfRange", "pub-marram/pub/afero/inner/os.ErrNotExist", "pub-marram/pub/afero/inner/os.ErrExist", "pub-marram/pub/afero/inner/os.ENOTDIR", "pub-marram/pub/afero/inner/os.ENOENT", "pub-marram/pub/afero/inner/os.EPERM", "pub-marram/pub/afero/inner/os.EBADFD", "pub-marram/pub/afero/inner/os.EIO"], apart := false, laid := [("pub-marram/pub/afero/inner/os.ErrExist", laid_pub_marram_pub_afero_inner_os_ErrExist), ("pub-marram/pub/afero/inner/os.ErrNotExist", laid_pub_marram_pub_afero_inner_os_ErrNotExist), ("pub-marram/pub/afero/inner/os.ENOENT", laid_pub_marram_pub_afero_inner_os_ENOENT), ("pub-marram/pub/afero/inner/os.ENOTDIR", laid_pub_marram_pub_afero_inner_os_ENOTDIR), ("pub-marram/pub/afero/inner/os.EPERM", laid_pub_marram_pub_afero_inner_os_EPERM), ("pub-marram/pub/afero/inner/os.EIO", laid_pub_marram_pub_afero_inner_os_EIO), ("pub-marram/pub/afero/inner/os.EBADFD", laid_pub_marram_pub_afero_inner_os_EBADFD), ("io.EOF", laid_io_EOF), ("io.ErrUnexpectedEOF", laid_io_ErrUnexpectedEOF), ("pub-marram/pub/afero/mem.ErrFileClosed", laid_pub_marram_pub_afero_mem_ErrFileClosed), ("pub-marram/pub/afero/mem.ErrOutOfRange", laid_pub_marram_pub_afero_mem_ErrOutOfRange)] }
def FnReadIsReadAtSaid : Prop := fnReadIsReadAtRow.holds Tryd.pinned (OpenSpec.ofChange fnReadIsReadAtSpec)

/-- ITS FALSE NEIGHBOUR: 'it returns false'. Refute it at one input. -/
def fnReadIsReadAtWrong : ChangeSpec := { name := "fnReadIsReadAt", fn := fun _ => fun
  | [d1, d2, d3, d4] => { results := [.lit (.bool false)], args := [d1, d2, d3, d4] }
  | _ => none }
def FnReadIsReadAtWrongFalsely : Prop := fnReadIsReadAtRow.holds Tryd.pinned (OpenSpec.ofChange fnReadIsReadAtWrong)

/-- 'laws.FnReadOnlyHandle': WHATEVER THE INPUT: true; the input reads as it did. -/
def fnReadOnlyHandleSpec : ChangeSpec := { name := "fnReadOnlyHandle", fn := fun _ => fun
  | [d1, d2] => { results := [.lit (.bool true)], args := [d1, d2] }
  | _ => none }
def fnReadOnlyHandleRow : OpenClaim := { program := "yteblpejgenehfaadoor", sum := "f2baecb4ae9a88d4da5acb70a87b57234e36a81df448746c3595266356e19b11", func := "pub-marram/laws.FnReadOnlyHandle", spec := "fnReadOnlyHandle", named := ["pub-marram/pub/afero/mem.ErrFileClosed", "io.EOF", "io.ErrUnexpectedEOF", "pub-marram/pub/afero/mem.ErrOutOfRange", "pub-marram/pub/afero/inner/os.ErrNotExist", "pub-marram/pub/afero/inner/os.ErrExist", "pub-marram/pub/afero/inner/os.ENOTDIR", "pub-marram/pub/afero/inner/os.ENOENT", "pub-marram/pub/afero/inner/os.EPERM", "pub-marram/pub/afero/inner/os.EBADFD", "pub-marram/pub/afero/inner/os.EIO"], apart := false, laid := [("pub-marram/pub/afero/inner/os.ErrExist", laid_pub_marram_pub_afero_inner_os_ErrExist), ("pub-marram/pub/afero/inner/os.ErrNotExist", laid_pub_marram_pub_afero_inner_os_ErrNotExist), ("pub-marram/pub/afero/inner/os.ENOENT", laid_pub_marram_pub_afero_inner_os_ENOENT), ("pub-marram/pub/afero/inner/os.ENOTDIR", laid_pub_marram_pub_afero_inner_os_ENOTDIR), ("pub-marram/pub/afero/inner/os.EPERM", laid_pub_marram_pub_afero_inner_os_EPERM), ("pub-marram/pub/afero/inner/os.EIO", laid_pub_marram_pub_afero_inner_os_EIO), ("pub-marram/pub/afero/inner/os.EBADFD", laid_pub_marram_pub_afero_inner_os_EBADFD), ("io.EOF", laid_io_EOF), ("io.ErrUnexpectedEOF", laid_io_ErrUnexpectedEOF), ("pub-marram/pub/afero/mem.ErrFileClosed", laid_pub_marram_pub_afero_mem_ErrFileClosed), ("pub-marram/pub/afero/mem.ErrOutOfRange", laid_pub_marram_pub_afero_mem_ErrOutOfRange)] }
def FnReadOnlyHandleSaid : Prop := fnReadOnlyHandleRow.holds Tryd.pinned (OpenSpec.ofChange fnReadOnlyHandleSpec)

/-- ITS FALSE NEIGHBOUR: 'it returns false'. Refute it at one input. -/
def fnReadOnlyHandleWrong : ChangeSpec := { name := "fnReadOnlyHandle", fn := fun _ => fun
  | [d1, d2] => { results := [.lit (.bool false)], args := [d1, d2] }
  | _ => none }
def FnReadOnlyHandleWrongFalsely : Prop := fnReadOnlyHandleRow.holds Tryd.pinned (OpenSpec.ofChange fnReadOnlyHandleWrong)

/-- 'laws.FnReadToTheEnd': WHATEVER THE INPUT: true; the input reads as it did. -/
def fnReadToTheEndSpec : ChangeSpec := { name := "fnReadToTheEnd", fn := fun _ => fun
  | [d1, d2, d3, d4] => { results := [.lit (.bool true)], args := [d1, d2, d3, d4] }
  | _ => none }
def fnReadToTheEndRow : OpenClaim := { program := "yteblpejgenehfaadoor", sum := "f2baecb4ae9a88d4da5acb70a87b57234e36a81df448746c3595266356e19b11", func := "pub-marram/laws.FnReadToTheEnd", spec := "fnReadToTheEnd", named := ["pub-marram/pub/afero/mem.ErrFileClosed", "io.EOF", "io.ErrUnexpectedEOF", "pub-marram/pub/afero/mem.ErrOutOfRange", "pub-marram/pub/afero/inner/os.ErrNotExist", "pub-marram/pub/afero/inner/os.ErrExist", "pub-marram/pub/afero/inner/os.ENOTDIR", "pub-marram/pub/afero/inner/os.ENOENT", "pub-marram/pub/afero/inner/os.EPERM", "pub-marram/pub/afero/inner/os.EBADFD", "pub-marram/pub/afero/inner/os.EIO"], apart := false, laid := [("pub-marram/pub/afero/inner/os.ErrExist", laid_pub_marram_pub_afero_inner_os_ErrExist), ("pub-marram/pub/afero/inner/os.ErrNotExist", laid_pub_marram_pub_afero_inner_os_ErrNotExist), ("pub-marram/pub/afero/inner/os.ENOENT", laid_pub_marram_pub_afero_inner_os_ENOENT), ("pub-marram/pub/afero/inner/os.ENOTDIR", laid_pub_marram_pub_afero_inner_os_ENOTDIR), ("pub-marram/pub/afero/inner/os.EPERM", laid_pub_marram_pub_afero_inner_os_EPERM), ("pub-marram/pub/afero/inner/os.EIO", laid_pub_marram_pub_afero_inner_os_EIO), ("pub-marram/pub/afero/inner/os.EBADFD", laid_pub_marram_pub_afero_inner_os_EBADFD), ("io.EOF", laid_io_EOF), ("io.ErrUnexpectedEOF", laid_io_ErrUnexpectedEOF), ("pub-marram/pub/afero/mem.ErrFileClosed", laid_pub_marram_pub_afero_mem_ErrFileClosed), ("pub-marram/pub/afero/mem.ErrOutOfRange", laid_pub_marram_pub_afero_mem_ErrOutOfRange)] }
def FnReadToTheEndSaid : Prop := fnReadToTheEndRow.holds Tryd.pinned (OpenSpec.ofChange fnReadToTheEndSpec)

/-- ITS FALSE NEIGHBOUR: 'it returns false'. Refute it at one input. -/
def fnReadToTheEndWrong : ChangeSpec := { name := "fnReadToTheEnd", fn := fun _ => fun
  | [d1, d2, d3, d4] => { results := [.lit (.bool false)], args := [d1, d2, d3, d4] }
  | _ => none }
def FnReadToTheEndWrongFalsely : Prop := fnReadToTheEndRow.holds Tryd.pinned (OpenSpec.ofChange fnReadToTheEndWrong)

/-- 'laws.FnSeekMoves': WHATEVER THE INPUT: true; the input reads as it did. -/
def fnSeekMovesSpec : ChangeSpec := { name := "fnSeekMoves", fn := fun _ => fun
  | [d1, d2, d3] => { results := [.lit (.bool true)], args := [d1, d2, d3] }
  | _ => none }
def fnSeekMovesRow : OpenClaim := { program := "yteblpejgenehfaadoor", sum := "f2baecb4ae9a88d4da5acb70a87b57234e36a81df448746c3595266356e19b11", func := "pub-marram/laws.FnSeekMoves", spec := "fnSeekMoves", named := ["pub-marram/pub/afero/mem.ErrFileClosed", "io.EOF", "io.ErrUnexpectedEOF", "pub-marram/pub/afero/mem.ErrOutOfRange", "pub-marram/pub/afero/inner/os.ErrNotExist", "pub-marram/pub/afero/inner/os.ErrExist", "pub-marram/pub/afero/inner/os.ENOTDIR", "pub-marram/pub/afero/inner/os.ENOENT", "pub-marram/pub/afero/inner/os.EPERM", "pub-marram/pub/afero/inner/os.EBADFD", "pub-marram/pub/afero/inner/os.EIO"], apart := false, laid := [("pub-marram/pub/afero/inner/os.ErrExist", laid_pub_marram_pub_afero_inner_os_ErrExist), ("pub-marram/pub/afero/inner/os.ErrNotExist", laid_pub_marram_pub_afero_inner_os_ErrNotExist), ("pub-marram/pub/afero/inner/os.ENOENT", laid_pub_marram_pub_afero_inner_os_ENOENT), ("pub-marram/pub/afero/inner/os.ENOTDIR", laid_pub_marram_pub_afero_inner_os_ENOTDIR), ("pub-marram/pub/afero/inner/os.EPERM", laid_pub_marram_pub_afero_inner_os_EPERM), ("pub-marram/pub/afero/inner/os.EIO", laid_pub_marram_pub_afero_inner_os_EIO), ("pub-marram/pub/afero/inner/os.EBADFD", laid_pub_marram_pub_afero_inner_os_EBADFD), ("io.EOF", laid_io_EOF), ("io.ErrUnexpectedEOF", laid_io_ErrUnexpectedEOF), ("pub-marram/pub/afero/mem.ErrFileClosed", laid_pub_marram_pub_afero_mem_ErrFileClosed), ("pub-marram/pub/afero/mem.ErrOutOfRange", laid_pub_marram_pub_afero_mem_ErrOutOfRange)] }
def FnSeekMovesSaid : Prop := fnSeekMovesRow.holds Tryd.pinned (OpenSpec.ofChange fnSeekMovesSpec)

/-- ITS FALSE NEIGHBOUR: 'it returns false'. Refute it at one input. -/
def fnSeekMovesWrong : ChangeSpec := { name := "fnSeekMoves", fn := fun _ => fun
  | [d1, d2, d3] => { results := [.lit (.bool false)], args := [d1, d2, d3] }
  | _ => none }
def FnSeekMovesWrongFalsely : Prop := fnSeekMovesRow.holds Tryd.pinned (OpenSpec.ofChange fnSeekMovesWrong)

/-- 'laws.FnUnionAlike': WHATEVER THE INPUT: true; the input reads as it did. -/
def fnUnionAlikeSpec : ChangeSpec := { name := "fnUnionAlike", fn := fun _ => fun
  | [d1, d2, d3] => { results := [.lit (.bool true)], args := [d1, d2, d3] }
  | _ => none }
def fnUnionAlikeRow : OpenClaim := { program := "yteblpejgenehfaadoor", sum := "f2baecb4ae9a88d4da5acb70a87b57234e36a81df448746c3595266356e19b11", func := "pub-marram/laws.FnUnionAlike", spec := "fnUnionAlike", recurses := true, named := ["io.EOF", "pub-marram/pub/afero/inner/os.EBADFD", "pub-marram/pub/afero/mem.ErrFileClosed", "io.ErrUnexpectedEOF", "pub-marram/pub/afero/mem.ErrOutOfRange", "pub-marram/pub/afero/inner/os.ErrNotExist", "pub-marram/pub/afero/inner/os.ErrExist", "pub-marram/pub/afero/inner/os.ENOTDIR", "pub-marram/pub/afero/inner/os.ENOENT", "pub-marram/pub/afero/inner/os.EPERM", "pub-marram/pub/afero/inner/os.EIO"], apart := false, laid := [("pub-marram/pub/afero/inner/os.ErrExist", laid_pub_marram_pub_afero_inner_os_ErrExist), ("pub-marram/pub/afero/inner/os.ErrNotExist", laid_pub_marram_pub_afero_inner_os_ErrNotExist), ("pub-marram/pub/afero/inner/os.ENOENT", laid_pub_marram_pub_afero_inner_os_ENOENT), ("pub-marram/pub/afero/inner/os.ENOTDIR", laid_pub_marram_pub_afero_inner_os_ENOTDIR), ("pub-marram/pub/afero/inner/os.EPERM", laid_pub_marram_pub_afero_inner_os_EPERM), ("pub-marram/pub/afero/inner/os.EIO", laid_pub_marram_pub_afero_inner_os_EIO), ("pub-marram/pub/afero/inner/os.EBADFD", laid_pub_marram_pub_afero_inner_os_EBADFD), ("io.EOF", laid_io_EOF), ("io.ErrUnexpectedEOF", laid_io_ErrUnexpectedEOF), ("pub-marram/pub/afero/mem.ErrFileClosed", laid_pub_marram_pub_afero_mem_ErrFileClosed), ("pub-marram/pub/afero/mem.ErrOutOfRange", laid_pub_marram_pub_afero_mem_ErrOutOfRange)] }
def FnUnionAlikeSaid : Prop := fnUnionAlikeRow.holds Tryd.pinned (OpenSpec.ofChange fnUnionAlikeSpec)

/-- ITS FALSE NEIGHBOUR: 'it returns false'. Refute it at one input. -/
def fnUnionAlikeWrong : ChangeSpec := { name := "fnUnionAlike", fn := fun _ => fun
  | [d1, d2, d3] => { results := [.lit (.bool false)], args := [d1, d2, d3] }
  | _ => none }
def FnUnionAlikeWrongFalsely : Prop := fnUnionAlikeRow.holds Tryd.pinned (OpenSpec.ofChange fnUnionAlikeWrong)

/-- 'laws.FnUnionCopies': WHATEVER THE INPUT: true; the input reads as it did. -/
def fnUnionCopiesSpec : ChangeSpec := { name := "fnUnionCopies", fn := fun _ => fun
  | [d1, d2, d3, d4] => { results := [.lit (.bool true)], args := [d1, d2, d3, d4] }
  | _ => none }
def fnUnionCopiesRow : OpenClaim := { program := "yteblpejgenehfaadoor", sum := "f2baecb4ae9a88d4da5acb70a87b57234e36a81df448746c3595266356e19b11", func := "pub-marram/laws.FnUnionCopies", spec := "fnUnionCopies", named := ["io.EOF", "pub-marram/pub/afero/inner/os.EBADFD", "pub-marram/pub/afero/mem.ErrFileClosed", "io.ErrUnexpectedEOF", "pub-marram/pub/afero/mem.ErrOutOfRange", "pub-marram/pub/afero/inner/os.ErrNotExist", "pub-marram/pub/afero/inner/os.ErrExist", "pub-marram/pub/afero/inner/os.ENOTDIR", "pub-marram/pub/afero/inner/os.ENOENT", "pub-marram/pub/afero/inner/os.EPERM", "pub-marram/pub/afero/inner/os.EIO"], apart := false, laid := [("pub-marram/pub/afero/inner/os.ErrExist", laid_pub_marram_pub_afero_inner_os_ErrExist), ("pub-marram/pub/afero/inner/os.ErrNotExist", laid_pub_marram_pub_afero_inner_os_ErrNotExist), ("pub-marram/pub/afero/inner/os.ENOENT", laid_pub_marram_pub_afero_inner_os_ENOENT), ("pub-marram/pub/afero/inner/os.ENOTDIR", laid_pub_marram_pub_afero_inner_os_ENOTDIR), ("pub-marram/pub/afero/inner/os.EPERM", laid_pub_marram_pub_afero_inner_os_EPERM), ("pub-marram/pub/afero/inner/os.EIO", laid_pub_marram_pub_afero_inner_os_EIO), ("pub-marram/pub/afero/inner/os.EBADFD", laid_pub_marram_pub_afero_inner_os_EBADFD), ("io.EOF", laid_io_EOF), ("io.ErrUnexpectedEOF", laid_io_ErrUnexpectedEOF), ("pub-marram/pub/afero/mem.ErrFileClosed", laid_pub_marram_pub_afero_mem_ErrFileClosed), ("pub-marram/pub/afero/mem.ErrOutOfRange", laid_pub_marram_pub_afero_mem_ErrOutOfRange)] }
def FnUnionCopiesSaid : Prop := fnUnionCopiesRow.holds Tryd.pinned (OpenSpec.ofChange fnUnionCopiesSpec)

/-- ITS FALSE NEIGHBOUR: 'it returns false'. Refute it at one input. -/
def fnUnionCopiesWrong : ChangeSpec := { name := "fnUnionCopies", fn := fun _ => fun
  | [d1, d2, d3, d4] => { results := [.lit (.bool false)], args := [d1, d2, d3, d4] }
  | _ => none }
def FnUnionCopiesWrongFalsely : Prop := fnUnionCopiesRow.holds Tryd.pinned (OpenSpec.ofChange fnUnionCopiesWrong)

/-- 'laws.FnUnionScript': WHATEVER THE INPUT: true; the input reads as it did. -/
def fnUnionScriptSpec : ChangeSpec := { name := "fnUnionScript", fn := fun _ => fun
  | [d1, d2, d3, d4] => { results := [.lit (.bool true)], args := [d1, d2, d3, d4] }
  | _ => none }
def fnUnionScriptRow : OpenClaim := { program := "yteblpejgenehfaadoor", sum := "f2baecb4ae9a88d4da5acb70a87b57234e36a81df448746c3595266356e19b11", func := "pub-marram/laws.FnUnionScript", spec := "fnUnionScript", recurses := true, named := ["io.EOF", "pub-marram/pub/afero/inner/os.EBADFD", "pub-marram/pub/afero/mem.ErrFileClosed", "io.ErrUnexpectedEOF", "pub-marram/pub/afero/mem.ErrOutOfRange", "pub-marram/pub/afero/inner/os.ErrNotExist", "pub-marram/pub/afero/inner/os.ErrExist", "pub-marram/pub/afero/inner/os.ENOTDIR", "pub-marram/pub/afero/inner/os.ENOENT", "pub-marram/pub/afero/inner/os.EPERM", "pub-marram/pub/afero/inner/os.EIO"], apart := false, laid := [("pub-marram/pub/afero/inner/os.ErrExist", laid_pub_marram_pub_afero_inner_os_ErrExist), ("pub-marram/pub/afero/inner/os.ErrNotExist", laid_pub_marram_pub_afero_inner_os_ErrNotExist), ("pub-marram/pub/afero/inner/os.ENOENT", laid_pub_marram_pub_afero_inner_os_ENOENT), ("pub-marram/pub/afero/inner/os.ENOTDIR", laid_pub_marram_pub_afero_inner_os_ENOTDIR), ("pub-marram/pub/afero/inner/os.EPERM", laid_pub_marram_pub_afero_inner_os_EPERM), ("pub-marram/pub/afero/inner/os.EIO", laid_pub_marram_pub_afero_inner_os_EIO), ("pub-marram/pub/afero/inner/os.EBADFD", laid_pub_marram_pub_afero_inner_os_EBADFD), ("io.EOF", laid_io_EOF), ("io.ErrUnexpectedEOF", laid_io_ErrUnexpectedEOF), ("pub-marram/pub/afero/mem.ErrFileClosed", laid_pub_marram_pub_afero_mem_ErrFileClosed), ("pub-marram/pub/afero/mem.ErrOutOfRange", laid_pub_marram_pub_afero_mem_ErrOutOfRange)] }
def FnUnionScriptSaid : Prop := fnUnionScriptRow.holds Tryd.pinned (OpenSpec.ofChange fnUnionScriptSpec)

/-- ITS FALSE NEIGHBOUR: 'it returns false'. Refute it at one input. -/
def fnUnionScriptWrong : ChangeSpec := { name := "fnUnionScript", fn := fun _ => fun
  | [d1, d2, d3, d4] => { results := [.lit (.bool false)], args := [d1, d2, d3, d4] }
  | _ => none }
def FnUnionScriptWrongFalsely : Prop := fnUnionScriptRow.holds Tryd.pinned (OpenSpec.ofChange fnUnionScriptWrong)

/- THE SECOND FORM. 'bulk': how many values and letters a reading holds, each counted each time it is reached (what is shared counts as often as it is met; a slice's spare places count too). A statement '..UptoSaid' is the law's where the arguments, and the package variables that the reading takes, are together of bulk at most 1048576: NARROWER than '..Said'. Prove '..Said' where nothing that the law and all that it calls make is longer than what came in: it says more and counts as full. Else prove '..UptoSaid'. A law counts once. -/
mutual
def uptoBulk {H : Type} : DataW H → Nat
  | .lit (.string bytes) => bytes.length + 1
  | .lit _ => 1
  | .nil => 1
  | .ptr d => uptoBulk d + 1
  | .slice elems spare => uptoBulkAll elems + uptoBulkAll spare + 1
  | .agg parts => uptoBulkAll parts + 1
  | .iface _ d => uptoBulk d + 1
  | .map entries => uptoBulkEntries entries + 1
  | .held _ => 1
def uptoBulkAll {H : Type} : List (DataW H) → Nat
  | [] => 0
  | d :: r => uptoBulk d + uptoBulkAll r
def uptoBulkEntries {H : Type} : List (Lit × DataW H) → Nat
  | [] => 0
  | x :: r => uptoBulkEntry x + uptoBulkEntries r
def uptoBulkEntry {H : Type} : Lit × DataW H → Nat
  | (.string bytes, d) => bytes.length + uptoBulk d + 1
  | (_, d) => uptoBulk d + 1
 end
def uptoSmall : (H : Type) → List (DataW H) → Bool := fun _ ds => decide (uptoBulkAll ds ≤ 1048576)
def OpenSpec.upto (s : _root_.Go.ChangeSpec) : _root_.Go.OpenSpec := { _root_.Go.OpenSpec.ofChange s with cond := some uptoSmall }

/-- 'laws.FnBytesAreBytes', WHERE WHAT IT READS IS OF BULK AT MOST 1048576: true; the input reads as it did. -/
def fnBytesAreBytesUptoRow : OpenClaim := { program := "yteblpejgenehfaadoor", sum := "f2baecb4ae9a88d4da5acb70a87b57234e36a81df448746c3595266356e19b11", func := "pub-marram/laws.FnBytesAreBytes", spec := "fnBytesAreBytes", recurses := true, named := ["pub-marram/pub/afero/mem.ErrFileClosed", "io.EOF", "io.ErrUnexpectedEOF", "pub-marram/pub/afero/mem.ErrOutOfRange", "pub-marram/pub/afero/inner/os.ErrNotExist", "pub-marram/pub/afero/inner/os.ErrExist", "pub-marram/pub/afero/inner/os.ENOTDIR", "pub-marram/pub/afero/inner/os.ENOENT", "pub-marram/pub/afero/inner/os.EPERM", "pub-marram/pub/afero/inner/os.EBADFD", "pub-marram/pub/afero/inner/os.EIO"], apart := false, laid := [("pub-marram/pub/afero/inner/os.ErrExist", laid_pub_marram_pub_afero_inner_os_ErrExist), ("pub-marram/pub/afero/inner/os.ErrNotExist", laid_pub_marram_pub_afero_inner_os_ErrNotExist), ("pub-marram/pub/afero/inner/os.ENOENT", laid_pub_marram_pub_afero_inner_os_ENOENT), ("pub-marram/pub/afero/inner/os.ENOTDIR", laid_pub_marram_pub_afero_inner_os_ENOTDIR), ("pub-marram/pub/afero/inner/os.EPERM", laid_pub_marram_pub_afero_inner_os_EPERM), ("pub-marram/pub/afero/inner/os.EIO", laid_pub_marram_pub_afero_inner_os_EIO), ("pub-marram/pub/afero/inner/os.EBADFD", laid_pub_marram_pub_afero_inner_os_EBADFD), ("io.EOF", laid_io_EOF), ("io.ErrUnexpectedEOF", laid_io_ErrUnexpectedEOF), ("pub-marram/pub/afero/mem.ErrFileClosed", laid_pub_marram_pub_afero_mem_ErrFileClosed), ("pub-marram/pub/afero/mem.ErrOutOfRange", laid_pub_marram_pub_afero_mem_ErrOutOfRange)], narrowed := true }
def FnBytesAreBytesUptoSaid : Prop := fnBytesAreBytesUptoRow.holds Tryd.pinned (OpenSpec.upto fnBytesAreBytesSpec)

/-- 'laws.FnReadIsReadAt', WHERE WHAT IT READS IS OF BULK AT MOST 1048576: true; the input reads as it did. -/
def fnReadIsReadAtUptoRow : OpenClaim := { program := "yteblpejgenehfaadoor", sum := "f2baecb4ae9a88d4da5acb70a87b57234e36a81df448746c3595266356e19b11", func := "pub-marram/laws.FnReadIsReadAt", spec := "fnReadIsReadAt", named := ["pub-marram/pub/afero/mem.ErrFileClosed", "io.EOF", "io.ErrUnexpectedEOF", "pub-marram/pub/afero/mem.ErrOutOfRange", "pub-marram/pub/afero/inner/os.ErrNotExist", "pub-marram/pub/afero/inner/os.ErrExist", "pub-marram/pub/afero/inner/os.ENOTDIR", "pub-marram/pub/afero/inner/os.ENOENT", "pub-marram/pub/afero/inner/os.EPERM", "pub-marram/pub/afero/inner/os.EBADFD", "pub-marram/pub/afero/inner/os.EIO"], apart := false, laid := [("pub-marram/pub/afero/inner/os.ErrExist", laid_pub_marram_pub_afero_inner_os_ErrExist), ("pub-marram/pub/afero/inner/os.ErrNotExist", laid_pub_marram_pub_afero_inner_os_ErrNotExist), ("pub-marram/pub/afero/inner/os.ENOENT", laid_pub_marram_pub_afero_inner_os_ENOENT), ("pub-marram/pub/afero/inner/os.ENOTDIR", laid_pub_marram_pub_afero_inner_os_ENOTDIR), ("pub-marram/pub/afero/inner/os.EPERM", laid_pub_marram_pub_afero_inner_os_EPERM), ("pub-marram/pub/afero/inner/os.EIO", laid_pub_marram_pub_afero_inner_os_EIO), ("pub-marram/pub/afero/inner/os.EBADFD", laid_pub_marram_pub_afero_inner_os_EBADFD), ("io.EOF", laid_io_EOF), ("io.ErrUnexpectedEOF", laid_io_ErrUnexpectedEOF), ("pub-marram/pub/afero/mem.ErrFileClosed", laid_pub_marram_pub_afero_mem_ErrFileClosed), ("pub-marram/pub/afero/mem.ErrOutOfRange", laid_pub_marram_pub_afero_mem_ErrOutOfRange)], narrowed := true }
def FnReadIsReadAtUptoSaid : Prop := fnReadIsReadAtUptoRow.holds Tryd.pinned (OpenSpec.upto fnReadIsReadAtSpec)

/-- 'laws.FnReadOnlyHandle', WHERE WHAT IT READS IS OF BULK AT MOST 1048576: true; the input reads as it did. -/
def fnReadOnlyHandleUptoRow : OpenClaim := { program := "yteblpejgenehfaadoor", sum := "f2baecb4ae9a88d4da5acb70a87b57234e36a81df448746c3595266356e19b11", func := "pub-marram/laws.FnReadOnlyHandle", spec := "fnReadOnlyHandle", named := ["pub-marram/pub/afero/mem.ErrFileClosed", "io.EOF", "io.ErrUnexpectedEOF", "pub-marram/pub/afero/mem.ErrOutOfRange", "pub-marram/pub/afero/inner/os.ErrNotExist", "pub-marram/pub/afero/inner/os.ErrExist", "pub-marram/pub/afero/inner/os.ENOTDIR", "pub-marram/pub/afero/inner/os.ENOENT", "pub-marram/pub/afero/inner/os.EPERM", "pub-marram/pub/afero/inner/os.EBADFD", "pub-marram/pub/afero/inner/os.EIO"], apart := false, laid := [("pub-marram/pub/afero/inner/os.ErrExist", laid_pub_marram_pub_afero_inner_os_ErrExist), ("pub-marram/pub/afero/inner/os.ErrNotExist", laid_pub_marram_pub_afero_inner_os_ErrNotExist), ("pub-marram/pub/afero/inner/os.ENOENT", laid_pub_marram_pub_afero_inner_os_ENOENT), ("pub-marram/pub/afero/inner/os.ENOTDIR", laid_pub_marram_pub_afero_inner_os_ENOTDIR), ("pub-marram/pub/afero/inner/os.EPERM", laid_pub_marram_pub_afero_inner_os_EPERM), ("pub-marram/pub/afero/inner/os.EIO", laid_pub_marram_pub_afero_inner_os_EIO), ("pub-marram/pub/afero/inner/os.EBADFD", laid_pub_marram_pub_afero_inner_os_EBADFD), ("io.EOF", laid_io_EOF), ("io.ErrUnexpectedEOF", laid_io_ErrUnexpectedEOF), ("pub-marram/pub/afero/mem.ErrFileClosed", laid_pub_marram_pub_afero_mem_ErrFileClosed), ("pub-marram/pub/afero/mem.ErrOutOfRange", laid_pub_marram_pub_afero_mem_ErrOutOfRange)], narrowed := true }
def FnReadOnlyHandleUptoSaid : Prop := fnReadOnlyHandleUptoRow.holds Tryd.pinned (OpenSpec.upto fnReadOnlyHandleSpec)

/-- 'laws.FnReadToTheEnd', WHERE WHAT IT READS IS OF BULK AT MOST 1048576: true; the input reads as it did. -/
def fnReadToTheEndUptoRow : OpenClaim := { program := "yteblpejgenehfaadoor", sum := "f2baecb4ae9a88d4da5acb70a87b57234e36a81df448746c3595266356e19b11", func := "pub-marram/laws.FnReadToTheEnd", spec := "fnReadToTheEnd", named := ["pub-marram/pub/afero/mem.ErrFileClosed", "io.EOF", "io.ErrUnexpectedEOF", "pub-marram/pub/afero/mem.ErrOutOfRange", "pub-marram/pub/afero/inner/os.ErrNotExist", "pub-marram/pub/afero/inner/os.ErrExist", "pub-marram/pub/afero/inner/os.ENOTDIR", "pub-marram/pub/afero/inner/os.ENOENT", "pub-marram/pub/afero/inner/os.EPERM", "pub-marram/pub/afero/inner/os.EBADFD", "pub-marram/pub/afero/inner/os.EIO"], apart := false, laid := [("pub-marram/pub/afero/inner/os.ErrExist", laid_pub_marram_pub_afero_inner_os_ErrExist), ("pub-marram/pub/afero/inner/os.ErrNotExist", laid_pub_marram_pub_afero_inner_os_ErrNotExist), ("pub-marram/pub/afero/inner/os.ENOENT", laid_pub_marram_pub_afero_inner_os_ENOENT), ("pub-marram/pub/afero/inner/os.ENOTDIR", laid_pub_marram_pub_afero_inner_os_ENOTDIR), ("pub-marram/pub/afero/inner/os.EPERM", laid_pub_marram_pub_afero_inner_os_EPERM), ("pub-marram/pub/afero/inner/os.EIO", laid_pub_marram_pub_afero_inner_os_EIO), ("pub-marram/pub/afero/inner/os.EBADFD", laid_pub_marram_pub_afero_inner_os_EBADFD), ("io.EOF", laid_io_EOF), ("io.ErrUnexpectedEOF", laid_io_ErrUnexpectedEOF), ("pub-marram/pub/afero/mem.ErrFileClosed", laid_pub_marram_pub_afero_mem_ErrFileClosed), ("pub-marram/pub/afero/mem.ErrOutOfRange", laid_pub_marram_pub_afero_mem_ErrOutOfRange)], narrowed := true }
def FnReadToTheEndUptoSaid : Prop := fnReadToTheEndUptoRow.holds Tryd.pinned (OpenSpec.upto fnReadToTheEndSpec)

/-- 'laws.FnSeekMoves', WHERE WHAT IT READS IS OF BULK AT MOST 1048576: true; the input reads as it did. -/
def fnSeekMovesUptoRow : OpenClaim := { program := "yteblpejgenehfaadoor", sum := "f2baecb4ae9a88d4da5acb70a87b57234e36a81df448746c3595266356e19b11", func := "pub-marram/laws.FnSeekMoves", spec := "fnSeekMoves", named := ["pub-marram/pub/afero/mem.ErrFileClosed", "io.EOF", "io.ErrUnexpectedEOF", "pub-marram/pub/afero/mem.ErrOutOfRange", "pub-marram/pub/afero/inner/os.ErrNotExist", "pub-marram/pub/afero/inner/os.ErrExist", "pub-marram/pub/afero/inner/os.ENOTDIR", "pub-marram/pub/afero/inner/os.ENOENT", "pub-marram/pub/afero/inner/os.EPERM", "pub-marram/pub/afero/inner/os.EBADFD", "pub-marram/pub/afero/inner/os.EIO"], apart := false, laid := [("pub-marram/pub/afero/inner/os.ErrExist", laid_pub_marram_pub_afero_inner_os_ErrExist), ("pub-marram/pub/afero/inner/os.ErrNotExist", laid_pub_marram_pub_afero_inner_os_ErrNotExist), ("pub-marram/pub/afero/inner/os.ENOENT", laid_pub_marram_pub_afero_inner_os_ENOENT), ("pub-marram/pub/afero/inner/os.ENOTDIR", laid_pub_marram_pub_afero_inner_os_ENOTDIR), ("pub-marram/pub/afero/inner/os.EPERM", laid_pub_marram_pub_afero_inner_os_EPERM), ("pub-marram/pub/afero/inner/os.EIO", laid_pub_marram_pub_afero_inner_os_EIO), ("pub-marram/pub/afero/inner/os.EBADFD", laid_pub_marram_pub_afero_inner_os_EBADFD), ("io.EOF", laid_io_EOF), ("io.ErrUnexpectedEOF", laid_io_ErrUnexpectedEOF), ("pub-marram/pub/afero/mem.ErrFileClosed", laid_pub_marram_pub_afero_mem_ErrFileClosed), ("pub-marram/pub/afero/mem.ErrOutOfRange", laid_pub_marram_pub_afero_mem_ErrOutOfRange)], narrowed := true }
def FnSeekMovesUptoSaid : Prop := fnSeekMovesUptoRow.holds Tryd.pinned (OpenSpec.upto fnSeekMovesSpec)

/-- 'laws.FnUnionAlike', WHERE WHAT IT READS IS OF BULK AT MOST 1048576: true; the input reads as it did. -/
def fnUnionAlikeUptoRow : OpenClaim := { program := "yteblpejgenehfaadoor", sum := "f2baecb4ae9a88d4da5acb70a87b57234e36a81df448746c3595266356e19b11", func := "pub-marram/laws.FnUnionAlike", spec := "fnUnionAlike", recurses := true, named := ["io.EOF", "pub-marram/pub/afero/inner/os.EBADFD", "pub-marram/pub/afero/mem.ErrFileClosed", "io.ErrUnexpectedEOF", "pub-marram/pub/afero/mem.ErrOutOfRange", "pub-marram/pub/afero/inner/os.ErrNotExist", "pub-marram/pub/afero/inner/os.ErrExist", "pub-marram/pub/afero/inner/os.ENOTDIR", "pub-marram/pub/afero/inner/os.ENOENT", "pub-marram/pub/afero/inner/os.EPERM", "pub-marram/pub/afero/inner/os.EIO"], apart := false, laid := [("pub-marram/pub/afero/inner/os.ErrExist", laid_pub_marram_pub_afero_inner_os_ErrExist), ("pub-marram/pub/afero/inner/os.ErrNotExist", laid_pub_marram_pub_afero_inner_os_ErrNotExist), ("pub-marram/pub/afero/inner/os.ENOENT", laid_pub_marram_pub_afero_inner_os_ENOENT), ("pub-marram/pub/afero/inner/os.ENOTDIR", laid_pub_marram_pub_afero_inner_os_ENOTDIR), ("pub-marram/pub/afero/inner/os.EPERM", laid_pub_marram_pub_afero_inner_os_EPERM), ("pub-marram/pub/afero/inner/os.EIO", laid_pub_marram_pub_afero_inner_os_EIO), ("pub-marram/pub/afero/inner/os.EBADFD", laid_pub_marram_pub_afero_inner_os_EBADFD), ("io.EOF", laid_io_EOF), ("io.ErrUnexpectedEOF", laid_io_ErrUnexpectedEOF), ("pub-marram/pub/afero/mem.ErrFileClosed", laid_pub_marram_pub_afero_mem_ErrFileClosed), ("pub-marram/pub/afero/mem.ErrOutOfRange", laid_pub_marram_pub_afero_mem_ErrOutOfRange)], narrowed := true }
def FnUnionAlikeUptoSaid : Prop := fnUnionAlikeUptoRow.holds Tryd.pinned (OpenSpec.upto fnUnionAlikeSpec)

/-- 'laws.FnUnionCopies', WHERE WHAT IT READS IS OF BULK AT MOST 1048576: true; the input reads as it did. -/
def fnUnionCopiesUptoRow : OpenClaim := { program := "yteblpejgenehfaadoor", sum := "f2baecb4ae9a88d4da5acb70a87b57234e36a81df448746c3595266356e19b11", func := "pub-marram/laws.FnUnionCopies", spec := "fnUnionCopies", named := ["io.EOF", "pub-marram/pub/afero/inner/os.EBADFD", "pub-marram/pub/afero/mem.ErrFileClosed", "io.ErrUnexpectedEOF", "pub-marram/pub/afero/mem.ErrOutOfRange", "pub-marram/pub/afero/inner/os.ErrNotExist", "pub-marram/pub/afero/inner/os.ErrExist", "pub-marram/pub/afero/inner/os.ENOTDIR", "pub-marram/pub/afero/inner/os.ENOENT", "pub-marram/pub/afero/inner/os.EPERM", "pub-marram/pub/afero/inner/os.EIO"], apart := false, laid := [("pub-marram/pub/afero/inner/os.ErrExist", laid_pub_marram_pub_afero_inner_os_ErrExist), ("pub-marram/pub/afero/inner/os.ErrNotExist", laid_pub_marram_pub_afero_inner_os_ErrNotExist), ("pub-marram/pub/afero/inner/os.ENOENT", laid_pub_marram_pub_afero_inner_os_ENOENT), ("pub-marram/pub/afero/inner/os.ENOTDIR", laid_pub_marram_pub_afero_inner_os_ENOTDIR), ("pub-marram/pub/afero/inner/os.EPERM", laid_pub_marram_pub_afero_inner_os_EPERM), ("pub-marram/pub/afero/inner/os.EIO", laid_pub_marram_pub_afero_inner_os_EIO), ("pub-marram/pub/afero/inner/os.EBADFD", laid_pub_marram_pub_afero_inner_os_EBADFD), ("io.EOF", laid_io_EOF), ("io.ErrUnexpectedEOF", laid_io_ErrUnexpectedEOF), ("pub-marram/pub/afero/mem.ErrFileClosed", laid_pub_marram_pub_afero_mem_ErrFileClosed), ("pub-marram/pub/afero/mem.ErrOutOfRange", laid_pub_marram_pub_afero_mem_ErrOutOfRange)], narrowed := true }
def FnUnionCopiesUptoSaid : Prop := fnUnionCopiesUptoRow.holds Tryd.pinned (OpenSpec.upto fnUnionCopiesSpec)

/-- 'laws.FnUnionScript', WHERE WHAT IT READS IS OF BULK AT MOST 1048576: true; the input reads as it did. -/
def fnUnionScriptUptoRow : OpenClaim := { program := "yteblpejgenehfaadoor", sum := "f2baecb4ae9a88d4da5acb70a87b57234e36a81df448746c3595266356e19b11", func := "pub-marram/laws.FnUnionScript", spec := "fnUnionScript", recurses := true, named := ["io.EOF", "pub-marram/pub/afero/inner/os.EBADFD", "pub-marram/pub/afero/mem.ErrFileClosed", "io.ErrUnexpectedEOF", "pub-marram/pub/afero/mem.ErrOutOfRange", "pub-marram/pub/afero/inner/os.ErrNotExist", "pub-marram/pub/afero/inner/os.ErrExist", "pub-marram/pub/afero/inner/os.ENOTDIR", "pub-marram/pub/afero/inner/os.ENOENT", "pub-marram/pub/afero/inner/os.EPERM", "pub-marram/pub/afero/inner/os.EIO"], apart := false, laid := [("pub-marram/pub/afero/inner/os.ErrExist", laid_pub_marram_pub_afero_inner_os_ErrExist), ("pub-marram/pub/afero/inner/os.ErrNotExist", laid_pub_marram_pub_afero_inner_os_ErrNotExist), ("pub-marram/pub/afero/inner/os.ENOENT", laid_pub_marram_pub_afero_inner_os_ENOENT), ("pub-marram/pub/afero/inner/os.ENOTDIR", laid_pub_marram_pub_afero_inner_os_ENOTDIR), ("pub-marram/pub/afero/inner/os.EPERM", laid_pub_marram_pub_afero_inner_os_EPERM), ("pub-marram/pub/afero/inner/os.EIO", laid_pub_marram_pub_afero_inner_os_EIO), ("pub-marram/pub/afero/inner/os.EBADFD", laid_pub_marram_pub_afero_inner_os_EBADFD), ("io.EOF", laid_io_EOF), ("io.ErrUnexpectedEOF", laid_io_ErrUnexpectedEOF), ("pub-marram/pub/afero/mem.ErrFileClosed", laid_pub_marram_pub_afero_mem_ErrFileClosed), ("pub-marram/pub/afero/mem.ErrOutOfRange", laid_pub_marram_pub_afero_mem_ErrOutOfRange)], narrowed := true }
def FnUnionScriptUptoSaid : Prop := fnUnionScriptUptoRow.holds Tryd.pinned (OpenSpec.upto fnUnionScriptSpec)

end Rows
end Go.Proofs.YteblpejgenehfaaDoor
