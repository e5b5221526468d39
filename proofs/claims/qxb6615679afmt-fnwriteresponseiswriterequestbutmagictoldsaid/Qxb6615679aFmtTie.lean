/-
  DERIVED. GIVEN WITH THE SEED: THE PROGRAM's TIES (one call each: nine closed facts by the kernel) AND EACH ROW's TIE, after the 31st guide's Derived/Test/Toyas{Tie, Card}.lean. No idea stands in it: it is a product of the set-up. Laid BY PROGRAM, IN A SANDBOX (cutbox-door.mjs). By AI agents, Wed Nov 11 2026. No macro, syntax, notation, axiom, sorry.
-/
import Derived.Test.Qxb6615679aFmtRows
import Derived.LaidByTextLater
import Derived.SevenTiedAt
import Derived.LaidSub
import Derived.LaidOnce
namespace Go.Proofs.Qxb6615679aFmt
open Go
set_option maxRecDepth 100000
theorem seatTie1 : Tryf.prog.laidByTextLater [("io.ErrShortWrite", Rows.laid_io_ErrShortWrite), ("io.ErrNoProgress", Rows.laid_io_ErrNoProgress), ("bufio.ErrBufferFull", Rows.laid_bufio_ErrBufferFull), ("bufio.ErrNegativeCount", Rows.laid_bufio_ErrNegativeCount), ("bufio.errNegativeRead", Rows.laid_bufio_errNegativeRead)] [.sentinel, .sentinel, .sentinel, .sentinel, .sentinel] true :=
  Program.laidByTextLater_by_one 147 8 21 (by kernel_rfl) (by kernel_rfl) (by kernel_rfl) (by kernel_rfl) (by kernel_rfl) (by kernel_rfl) (fun _ _ => by kernel_rfl)
theorem noOwnUnsafe : Tryf.pinned.checked.prog.headLifts.contains "ownunsafe" = false := by kernel_rfl
theorem tie : Tryf.prog.laidByTextLater [("io.ErrShortWrite", Rows.laid_io_ErrShortWrite)] [.sentinel] true :=
  Program.laidByTextLater.sub seatTie1 ["io.ErrShortWrite"] (by kernel_rfl) (by kernel_rfl)
theorem fnWriteRequestParsesBack_row_tie : Rows.fnWriteRequestParsesBackRow.laidByTextAt .later Tryf.pinned [.sentinel] true :=
  OpenClaim.laidByTextAt_later rfl rfl tie noOwnUnsafe
theorem fnWriteResponseIsWriteRequestButMagic_row_tie : Rows.fnWriteResponseIsWriteRequestButMagicRow.laidByTextAt .later Tryf.pinned [.sentinel] true :=
  OpenClaim.laidByTextAt_later rfl rfl tie noOwnUnsafe
theorem fnRequestReadsWhatWriteRequestWrote_row_tie : Rows.fnRequestReadsWhatWriteRequestWroteRow.laidByTextAt .later Tryf.pinned [.sentinel] true :=
  OpenClaim.laidByTextAt_later rfl rfl tie noOwnUnsafe
theorem tie2 : Tryf.prog.laidByTextLater [("io.ErrShortWrite", Rows.laid_io_ErrShortWrite), ("io.ErrNoProgress", Rows.laid_io_ErrNoProgress), ("bufio.ErrBufferFull", Rows.laid_bufio_ErrBufferFull), ("bufio.ErrNegativeCount", Rows.laid_bufio_ErrNegativeCount), ("bufio.errNegativeRead", Rows.laid_bufio_errNegativeRead)] [.sentinel, .sentinel, .sentinel, .sentinel, .sentinel] true :=
  Program.laidByTextLater.sub seatTie1 ["io.ErrShortWrite", "io.ErrNoProgress", "bufio.ErrBufferFull", "bufio.ErrNegativeCount", "bufio.errNegativeRead"] (by kernel_rfl) (by kernel_rfl)
theorem fnWriteResponseParsesBack_row_tie : Rows.fnWriteResponseParsesBackRow.laidByTextAt .later Tryf.pinned [.sentinel, .sentinel, .sentinel, .sentinel, .sentinel] true :=
  OpenClaim.laidByTextAt_later rfl rfl tie2 noOwnUnsafe
theorem fnPacketLenOfWrittenPacketAtAnyCut_row_tie : Rows.fnPacketLenOfWrittenPacketAtAnyCutRow.laidByTextAt .later Tryf.pinned [.sentinel, .sentinel, .sentinel, .sentinel, .sentinel] true :=
  OpenClaim.laidByTextAt_later rfl rfl tie2 noOwnUnsafe
theorem fnPacketLenAcceptsOnlyWhatRewrites_row_tie : Rows.fnPacketLenAcceptsOnlyWhatRewritesRow.laidByTextAt .later Tryf.pinned [.sentinel, .sentinel, .sentinel, .sentinel, .sentinel] true :=
  OpenClaim.laidByTextAt_later rfl rfl tie2 noOwnUnsafe
end Go.Proofs.Qxb6615679aFmt
