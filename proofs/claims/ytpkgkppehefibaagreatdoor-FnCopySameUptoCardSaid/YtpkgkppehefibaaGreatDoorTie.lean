/-
  DERIVED. GIVEN WITH THE SEED: THE PROGRAM's TIES (one call each: nine closed facts by the kernel) AND EACH ROW's TIE, after the 31st guide's Derived/Test/Toyas{Tie, Card}.lean. No idea stands in it: it is a product of the set-up. Laid BY PROGRAM, IN A SANDBOX (cutbox-door.mjs). By AI agents, Wed Nov 11 2026. No macro, syntax, notation, axiom, sorry.
-/
import Derived.Test.YtpkgkppehefibaaGreatDoorRows
import Derived.LaidByTextLater
import Derived.SevenTiedAt
import Derived.LaidSub
import Derived.LaidOnce
namespace Go.Proofs.YtpkgkppehefibaaGreatDoor
open Go
set_option maxRecDepth 100000
theorem seatTie1 : Tryz.prog.laidByTextLater [("io.ErrShortBuffer", Rows.laid_io_ErrShortBuffer), ("io.EOF", Rows.laid_io_EOF), ("io.ErrUnexpectedEOF", Rows.laid_io_ErrUnexpectedEOF), ("index/suffixarray.maxData32", Rows.laid_index_suffixarray_maxData32), ("index/suffixarray.errCorrupted", Rows.laid_index_suffixarray_errCorrupted)] [.sentinel, .sentinel, .sentinel, .data, .sentinel] true :=
  Program.laidByTextLater_by_one 108 8 2 (by kernel_rfl) (by kernel_rfl) (by kernel_rfl) (by kernel_rfl) (by kernel_rfl) (by kernel_rfl) (fun _ _ => by kernel_rfl)
theorem noOwnUnsafe : Tryz.pinned.checked.prog.headLifts.contains "ownunsafe" = false := by kernel_rfl
theorem tie : Tryz.prog.laidByTextLater [("io.ErrShortBuffer", Rows.laid_io_ErrShortBuffer), ("io.EOF", Rows.laid_io_EOF), ("io.ErrUnexpectedEOF", Rows.laid_io_ErrUnexpectedEOF), ("index/suffixarray.maxData32", Rows.laid_index_suffixarray_maxData32), ("index/suffixarray.errCorrupted", Rows.laid_index_suffixarray_errCorrupted)] [.sentinel, .sentinel, .sentinel, .data, .sentinel] true :=
  Program.laidByTextLater.sub seatTie1 ["io.ErrShortBuffer", "io.EOF", "io.ErrUnexpectedEOF", "index/suffixarray.maxData32", "index/suffixarray.errCorrupted"] (by kernel_rfl) (by kernel_rfl)
theorem fnExactIndexCopyMarks_row_tie : Rows.fnExactIndexCopyMarksRow.laidByTextAt .later Tryz.pinned [.sentinel, .sentinel, .sentinel, .data, .sentinel] true :=
  OpenClaim.laidByTextAt_later rfl rfl tie noOwnUnsafe
theorem fnExactIndexExactMarks_row_tie : Rows.fnExactIndexExactMarksRow.laidByTextAt .later Tryz.pinned [.sentinel, .sentinel, .sentinel, .data, .sentinel] true :=
  OpenClaim.laidByTextAt_later rfl rfl tie noOwnUnsafe
theorem fnExactForgets_row_tie : Rows.fnExactForgetsRow.laidByTextAt .later Tryz.pinned [.sentinel, .sentinel, .sentinel, .data, .sentinel] true :=
  OpenClaim.laidByTextAt_later rfl rfl tie noOwnUnsafe
theorem fnCopyMost_row_tie : Rows.fnCopyMostRow.laidByTextAt .later Tryz.pinned [.sentinel, .sentinel, .sentinel, .data, .sentinel] true :=
  OpenClaim.laidByTextAt_later rfl rfl tie noOwnUnsafe
theorem fnCopyAll_row_tie : Rows.fnCopyAllRow.laidByTextAt .later Tryz.pinned [.sentinel, .sentinel, .sentinel, .data, .sentinel] true :=
  OpenClaim.laidByTextAt_later rfl rfl tie noOwnUnsafe
theorem fnCopySame_row_tie : Rows.fnCopySameRow.laidByTextAt .later Tryz.pinned [.sentinel, .sentinel, .sentinel, .data, .sentinel] true :=
  OpenClaim.laidByTextAt_later rfl rfl tie noOwnUnsafe
theorem fnExactIndexCopyMarksUpto_row_tie : Rows.fnExactIndexCopyMarksUptoRow.laidByTextAt .later Tryz.pinned [.sentinel, .sentinel, .sentinel, .data, .sentinel] true :=
  OpenClaim.laidByTextAt_later rfl rfl tie noOwnUnsafe
theorem fnExactIndexExactMarksUpto_row_tie : Rows.fnExactIndexExactMarksUptoRow.laidByTextAt .later Tryz.pinned [.sentinel, .sentinel, .sentinel, .data, .sentinel] true :=
  OpenClaim.laidByTextAt_later rfl rfl tie noOwnUnsafe
theorem fnExactForgetsUpto_row_tie : Rows.fnExactForgetsUptoRow.laidByTextAt .later Tryz.pinned [.sentinel, .sentinel, .sentinel, .data, .sentinel] true :=
  OpenClaim.laidByTextAt_later rfl rfl tie noOwnUnsafe
theorem fnCopyMostUpto_row_tie : Rows.fnCopyMostUptoRow.laidByTextAt .later Tryz.pinned [.sentinel, .sentinel, .sentinel, .data, .sentinel] true :=
  OpenClaim.laidByTextAt_later rfl rfl tie noOwnUnsafe
theorem fnCopyAllUpto_row_tie : Rows.fnCopyAllUptoRow.laidByTextAt .later Tryz.pinned [.sentinel, .sentinel, .sentinel, .data, .sentinel] true :=
  OpenClaim.laidByTextAt_later rfl rfl tie noOwnUnsafe
theorem fnCopySameUpto_row_tie : Rows.fnCopySameUptoRow.laidByTextAt .later Tryz.pinned [.sentinel, .sentinel, .sentinel, .data, .sentinel] true :=
  OpenClaim.laidByTextAt_later rfl rfl tie noOwnUnsafe
end Go.Proofs.YtpkgkppehefibaaGreatDoor
