/-
  DERIVED. GIVEN WITH THE SEED: THE PROGRAM's TIES (one call each: nine closed facts by the kernel) AND EACH ROW's TIE, after the 31st guide's Derived/Test/Toyas{Tie, Card}.lean. No idea stands in it: it is a product of the set-up. Laid BY PROGRAM, IN A SANDBOX (cutbox-door.mjs). By AI agents, Wed Nov 11 2026. No macro, syntax, notation, axiom, sorry.
-/
import Derived.Test.YtdljebgllipdjaaGreatDoorRows
import Derived.LaidByTextLater
import Derived.SevenTiedAt
import Derived.LaidSub
import Derived.LaidOnce
namespace Go.Proofs.YtdljebgllipdjaaGreatDoor
open Go
set_option maxRecDepth 100000
theorem seatTie1 : Tryz.prog.laidByTextLater [("pub-marram/pub/afero/inner/os.ErrExist", Rows.laid_pub_marram_pub_afero_inner_os_ErrExist), ("pub-marram/pub/afero/inner/os.ErrNotExist", Rows.laid_pub_marram_pub_afero_inner_os_ErrNotExist), ("pub-marram/pub/afero/inner/os.ENOENT", Rows.laid_pub_marram_pub_afero_inner_os_ENOENT), ("pub-marram/pub/afero/inner/os.ENOTDIR", Rows.laid_pub_marram_pub_afero_inner_os_ENOTDIR), ("pub-marram/pub/afero/inner/os.EPERM", Rows.laid_pub_marram_pub_afero_inner_os_EPERM), ("pub-marram/pub/afero/inner/os.EIO", Rows.laid_pub_marram_pub_afero_inner_os_EIO), ("pub-marram/pub/afero/inner/os.EBADFD", Rows.laid_pub_marram_pub_afero_inner_os_EBADFD), ("io.EOF", Rows.laid_io_EOF), ("io.ErrUnexpectedEOF", Rows.laid_io_ErrUnexpectedEOF), ("pub-marram/pub/afero/mem.ErrFileClosed", Rows.laid_pub_marram_pub_afero_mem_ErrFileClosed), ("pub-marram/pub/afero/mem.ErrOutOfRange", Rows.laid_pub_marram_pub_afero_mem_ErrOutOfRange), ("pub-marram/pub/afero.SkipDir", Rows.laid_pub_marram_pub_afero_SkipDir)] [.sentinel, .sentinel, .sentinel, .sentinel, .sentinel, .sentinel, .sentinel, .sentinel, .sentinel, .sentinel, .sentinel, .sentinel] true :=
  Program.laidByTextLater_by_one 237 8 2 (by kernel_rfl) (by kernel_rfl) (by kernel_rfl) (by kernel_rfl) (by kernel_rfl) (by kernel_rfl) (fun _ _ => by kernel_rfl)
theorem noOwnUnsafe : Tryz.pinned.checked.prog.headLifts.contains "ownunsafe" = false := by kernel_rfl
theorem tie : Tryz.prog.laidByTextLater [("pub-marram/pub/afero/inner/os.ErrExist", Rows.laid_pub_marram_pub_afero_inner_os_ErrExist), ("pub-marram/pub/afero/inner/os.ErrNotExist", Rows.laid_pub_marram_pub_afero_inner_os_ErrNotExist), ("pub-marram/pub/afero/inner/os.ENOENT", Rows.laid_pub_marram_pub_afero_inner_os_ENOENT), ("pub-marram/pub/afero/inner/os.ENOTDIR", Rows.laid_pub_marram_pub_afero_inner_os_ENOTDIR), ("pub-marram/pub/afero/inner/os.EPERM", Rows.laid_pub_marram_pub_afero_inner_os_EPERM), ("pub-marram/pub/afero/inner/os.EIO", Rows.laid_pub_marram_pub_afero_inner_os_EIO), ("pub-marram/pub/afero/inner/os.EBADFD", Rows.laid_pub_marram_pub_afero_inner_os_EBADFD), ("io.EOF", Rows.laid_io_EOF), ("io.ErrUnexpectedEOF", Rows.laid_io_ErrUnexpectedEOF), ("pub-marram/pub/afero/mem.ErrFileClosed", Rows.laid_pub_marram_pub_afero_mem_ErrFileClosed), ("pub-marram/pub/afero/mem.ErrOutOfRange", Rows.laid_pub_marram_pub_afero_mem_ErrOutOfRange)] [.sentinel, .sentinel, .sentinel, .sentinel, .sentinel, .sentinel, .sentinel, .sentinel, .sentinel, .sentinel, .sentinel] true :=
  Program.laidByTextLater.sub seatTie1 ["pub-marram/pub/afero/inner/os.ErrExist", "pub-marram/pub/afero/inner/os.ErrNotExist", "pub-marram/pub/afero/inner/os.ENOENT", "pub-marram/pub/afero/inner/os.ENOTDIR", "pub-marram/pub/afero/inner/os.EPERM", "pub-marram/pub/afero/inner/os.EIO", "pub-marram/pub/afero/inner/os.EBADFD", "io.EOF", "io.ErrUnexpectedEOF", "pub-marram/pub/afero/mem.ErrFileClosed", "pub-marram/pub/afero/mem.ErrOutOfRange"] (by kernel_rfl) (by kernel_rfl)
theorem fnMemTree_row_tie : Rows.fnMemTreeRow.laidByTextAt .later Tryz.pinned [.sentinel, .sentinel, .sentinel, .sentinel, .sentinel, .sentinel, .sentinel, .sentinel, .sentinel, .sentinel, .sentinel] true :=
  OpenClaim.laidByTextAt_later rfl rfl tie noOwnUnsafe
theorem fnMemCopies_row_tie : Rows.fnMemCopiesRow.laidByTextAt .later Tryz.pinned [.sentinel, .sentinel, .sentinel, .sentinel, .sentinel, .sentinel, .sentinel, .sentinel, .sentinel, .sentinel, .sentinel] true :=
  OpenClaim.laidByTextAt_later rfl rfl tie noOwnUnsafe
theorem fnMemLooking_row_tie : Rows.fnMemLookingRow.laidByTextAt .later Tryz.pinned [.sentinel, .sentinel, .sentinel, .sentinel, .sentinel, .sentinel, .sentinel, .sentinel, .sentinel, .sentinel, .sentinel] true :=
  OpenClaim.laidByTextAt_later rfl rfl tie noOwnUnsafe
theorem fnMemNamesAreNames_row_tie : Rows.fnMemNamesAreNamesRow.laidByTextAt .later Tryz.pinned [.sentinel, .sentinel, .sentinel, .sentinel, .sentinel, .sentinel, .sentinel, .sentinel, .sentinel, .sentinel, .sentinel] true :=
  OpenClaim.laidByTextAt_later rfl rfl tie noOwnUnsafe
theorem fnMemRemoves_row_tie : Rows.fnMemRemovesRow.laidByTextAt .later Tryz.pinned [.sentinel, .sentinel, .sentinel, .sentinel, .sentinel, .sentinel, .sentinel, .sentinel, .sentinel, .sentinel, .sentinel] true :=
  OpenClaim.laidByTextAt_later rfl rfl tie noOwnUnsafe
theorem fnMemSets_row_tie : Rows.fnMemSetsRow.laidByTextAt .later Tryz.pinned [.sentinel, .sentinel, .sentinel, .sentinel, .sentinel, .sentinel, .sentinel, .sentinel, .sentinel, .sentinel, .sentinel] true :=
  OpenClaim.laidByTextAt_later rfl rfl tie noOwnUnsafe
theorem fnReadDir_row_tie : Rows.fnReadDirRow.laidByTextAt .later Tryz.pinned [.sentinel, .sentinel, .sentinel, .sentinel, .sentinel, .sentinel, .sentinel, .sentinel, .sentinel, .sentinel, .sentinel] true :=
  OpenClaim.laidByTextAt_later rfl rfl tie noOwnUnsafe
theorem fnReadFile_row_tie : Rows.fnReadFileRow.laidByTextAt .later Tryz.pinned [.sentinel, .sentinel, .sentinel, .sentinel, .sentinel, .sentinel, .sentinel, .sentinel, .sentinel, .sentinel, .sentinel] true :=
  OpenClaim.laidByTextAt_later rfl rfl tie noOwnUnsafe
theorem fnReadOnlyIsTheTree_row_tie : Rows.fnReadOnlyIsTheTreeRow.laidByTextAt .later Tryz.pinned [.sentinel, .sentinel, .sentinel, .sentinel, .sentinel, .sentinel, .sentinel, .sentinel, .sentinel, .sentinel, .sentinel] true :=
  OpenClaim.laidByTextAt_later rfl rfl tie noOwnUnsafe
theorem fnBaseKeepsTheRest_row_tie : Rows.fnBaseKeepsTheRestRow.laidByTextAt .later Tryz.pinned [.sentinel, .sentinel, .sentinel, .sentinel, .sentinel, .sentinel, .sentinel, .sentinel, .sentinel, .sentinel, .sentinel] true :=
  OpenClaim.laidByTextAt_later rfl rfl tie noOwnUnsafe
theorem tie2 : Tryz.prog.laidByTextLater [("pub-marram/pub/afero/inner/os.ErrExist", Rows.laid_pub_marram_pub_afero_inner_os_ErrExist), ("pub-marram/pub/afero/inner/os.ErrNotExist", Rows.laid_pub_marram_pub_afero_inner_os_ErrNotExist), ("pub-marram/pub/afero/inner/os.ENOENT", Rows.laid_pub_marram_pub_afero_inner_os_ENOENT), ("pub-marram/pub/afero/inner/os.ENOTDIR", Rows.laid_pub_marram_pub_afero_inner_os_ENOTDIR), ("pub-marram/pub/afero/inner/os.EPERM", Rows.laid_pub_marram_pub_afero_inner_os_EPERM), ("pub-marram/pub/afero/inner/os.EIO", Rows.laid_pub_marram_pub_afero_inner_os_EIO), ("pub-marram/pub/afero/inner/os.EBADFD", Rows.laid_pub_marram_pub_afero_inner_os_EBADFD), ("io.EOF", Rows.laid_io_EOF), ("io.ErrUnexpectedEOF", Rows.laid_io_ErrUnexpectedEOF), ("pub-marram/pub/afero/mem.ErrFileClosed", Rows.laid_pub_marram_pub_afero_mem_ErrFileClosed), ("pub-marram/pub/afero/mem.ErrOutOfRange", Rows.laid_pub_marram_pub_afero_mem_ErrOutOfRange), ("pub-marram/pub/afero.SkipDir", Rows.laid_pub_marram_pub_afero_SkipDir)] [.sentinel, .sentinel, .sentinel, .sentinel, .sentinel, .sentinel, .sentinel, .sentinel, .sentinel, .sentinel, .sentinel, .sentinel] true :=
  Program.laidByTextLater.sub seatTie1 ["pub-marram/pub/afero/inner/os.ErrExist", "pub-marram/pub/afero/inner/os.ErrNotExist", "pub-marram/pub/afero/inner/os.ENOENT", "pub-marram/pub/afero/inner/os.ENOTDIR", "pub-marram/pub/afero/inner/os.EPERM", "pub-marram/pub/afero/inner/os.EIO", "pub-marram/pub/afero/inner/os.EBADFD", "io.EOF", "io.ErrUnexpectedEOF", "pub-marram/pub/afero/mem.ErrFileClosed", "pub-marram/pub/afero/mem.ErrOutOfRange", "pub-marram/pub/afero.SkipDir"] (by kernel_rfl) (by kernel_rfl)
theorem fnWalkIsAll_row_tie : Rows.fnWalkIsAllRow.laidByTextAt .later Tryz.pinned [.sentinel, .sentinel, .sentinel, .sentinel, .sentinel, .sentinel, .sentinel, .sentinel, .sentinel, .sentinel, .sentinel, .sentinel] true :=
  OpenClaim.laidByTextAt_later rfl rfl tie2 noOwnUnsafe
theorem fnMemTreeUpto_row_tie : Rows.fnMemTreeUptoRow.laidByTextAt .later Tryz.pinned [.sentinel, .sentinel, .sentinel, .sentinel, .sentinel, .sentinel, .sentinel, .sentinel, .sentinel, .sentinel, .sentinel] true :=
  OpenClaim.laidByTextAt_later rfl rfl tie noOwnUnsafe
theorem fnMemCopiesUpto_row_tie : Rows.fnMemCopiesUptoRow.laidByTextAt .later Tryz.pinned [.sentinel, .sentinel, .sentinel, .sentinel, .sentinel, .sentinel, .sentinel, .sentinel, .sentinel, .sentinel, .sentinel] true :=
  OpenClaim.laidByTextAt_later rfl rfl tie noOwnUnsafe
theorem fnMemLookingUpto_row_tie : Rows.fnMemLookingUptoRow.laidByTextAt .later Tryz.pinned [.sentinel, .sentinel, .sentinel, .sentinel, .sentinel, .sentinel, .sentinel, .sentinel, .sentinel, .sentinel, .sentinel] true :=
  OpenClaim.laidByTextAt_later rfl rfl tie noOwnUnsafe
theorem fnMemNamesAreNamesUpto_row_tie : Rows.fnMemNamesAreNamesUptoRow.laidByTextAt .later Tryz.pinned [.sentinel, .sentinel, .sentinel, .sentinel, .sentinel, .sentinel, .sentinel, .sentinel, .sentinel, .sentinel, .sentinel] true :=
  OpenClaim.laidByTextAt_later rfl rfl tie noOwnUnsafe
theorem fnMemRemovesUpto_row_tie : Rows.fnMemRemovesUptoRow.laidByTextAt .later Tryz.pinned [.sentinel, .sentinel, .sentinel, .sentinel, .sentinel, .sentinel, .sentinel, .sentinel, .sentinel, .sentinel, .sentinel] true :=
  OpenClaim.laidByTextAt_later rfl rfl tie noOwnUnsafe
theorem fnMemSetsUpto_row_tie : Rows.fnMemSetsUptoRow.laidByTextAt .later Tryz.pinned [.sentinel, .sentinel, .sentinel, .sentinel, .sentinel, .sentinel, .sentinel, .sentinel, .sentinel, .sentinel, .sentinel] true :=
  OpenClaim.laidByTextAt_later rfl rfl tie noOwnUnsafe
theorem fnReadDirUpto_row_tie : Rows.fnReadDirUptoRow.laidByTextAt .later Tryz.pinned [.sentinel, .sentinel, .sentinel, .sentinel, .sentinel, .sentinel, .sentinel, .sentinel, .sentinel, .sentinel, .sentinel] true :=
  OpenClaim.laidByTextAt_later rfl rfl tie noOwnUnsafe
theorem fnReadFileUpto_row_tie : Rows.fnReadFileUptoRow.laidByTextAt .later Tryz.pinned [.sentinel, .sentinel, .sentinel, .sentinel, .sentinel, .sentinel, .sentinel, .sentinel, .sentinel, .sentinel, .sentinel] true :=
  OpenClaim.laidByTextAt_later rfl rfl tie noOwnUnsafe
theorem fnWalkIsAllUpto_row_tie : Rows.fnWalkIsAllUptoRow.laidByTextAt .later Tryz.pinned [.sentinel, .sentinel, .sentinel, .sentinel, .sentinel, .sentinel, .sentinel, .sentinel, .sentinel, .sentinel, .sentinel, .sentinel] true :=
  OpenClaim.laidByTextAt_later rfl rfl tie2 noOwnUnsafe
theorem fnReadOnlyIsTheTreeUpto_row_tie : Rows.fnReadOnlyIsTheTreeUptoRow.laidByTextAt .later Tryz.pinned [.sentinel, .sentinel, .sentinel, .sentinel, .sentinel, .sentinel, .sentinel, .sentinel, .sentinel, .sentinel, .sentinel] true :=
  OpenClaim.laidByTextAt_later rfl rfl tie noOwnUnsafe
theorem fnBaseKeepsTheRestUpto_row_tie : Rows.fnBaseKeepsTheRestUptoRow.laidByTextAt .later Tryz.pinned [.sentinel, .sentinel, .sentinel, .sentinel, .sentinel, .sentinel, .sentinel, .sentinel, .sentinel, .sentinel, .sentinel] true :=
  OpenClaim.laidByTextAt_later rfl rfl tie noOwnUnsafe
end Go.Proofs.YtdljebgllipdjaaGreatDoor
