/-
  NARROWER THAN 'FOR EVERY INPUT', by the rows' own cells (each row's printed sentence says how): FnWriteRequestParsesBack: laid · FnWriteResponseParsesBack: laid · FnWriteResponseIsWriteRequestButMagic: laid · FnPacketLenOfWrittenPacketAtAnyCut: laid · FnPacketLenAcceptsOnlyWhatRewrites: laid · FnRequestReadsWhatWriteRequestWrote: laid.
  DERIVED. THE GIVEN ROWS OF THIS SEAT. 6 by the template 'for every input the law returns true; each argument reads behind the call as it read before'; 0 by the template 'total and deterministic' (their statements: Qxb6615679aFmtTotals.lean).
  GIVEN WITH THE SEED: the statements are not yours to turn. If you find one false, say at which input.
  Laid BY PROGRAM, IN A SANDBOX (cutbox-rows.mjs): the forced cells as the released guide's own fill.sh prints them over the translation a088d5e0fe226414… (all of the seat's roots in one cut). By AI agents, Wed Nov 11 2026. No macro, syntax, notation, axiom, sorry.
-/
import Derived.Test.Qxb6615679aFmtChecked
import GoSem.Claim
import GoSem.ClaimJoined
import GoSem.ClaimMapViews
import Derived.JoinedTies
import Derived.KernelRfl
namespace Go.Proofs.Qxb6615679aFmt
/- THE CELL 'sum', in the pinned program and in every row, IS THE sha256 OF THE DUMP (.gsa) THAT Qxb6615679aFmtProg.lean LOADS. Nothing in Lean hashes anything: it is a label: what it is worth is what the hold of that sum in a sandbox is worth. -/
noncomputable def Tryf.pinned : Pinned := { name := "qxb6615679afmt", sum := "a088d5e0fe2264142badd5894c2fdbcb2d727c77d095031c5726807662ffb43f", checked := Tryf.checked }
namespace Rows
def none {H : Type} : Left H := { results := [], args := [] }

/- WHAT THE LISTED PACKAGE-LEVEL VARIABLES READ AS WHEN THE CALL BEGINS. Each datum BY PROGRAM (the guide's laid-datum.mjs) off the statement by which the dump's own 'gosem.cut.vars' lays the variable. In a bare row this is a premise. The card (Qxb6615679aFmtCards.lean) ties it to the program's text. -/
def laid_io_ErrShortWrite {H : Type} : DataW H := .iface "*errors.errorString" (.ptr (.agg [.lit (.string [115, 104, 111, 114, 116, 32, 119, 114, 105, 116, 101])]))
def laid_io_ErrNoProgress {H : Type} : DataW H := .iface "*errors.errorString" (.ptr (.agg [.lit (.string [109, 117, 108, 116, 105, 112, 108, 101, 32, 82, 101, 97, 100, 32, 99, 97, 108, 108, 115, 32, 114, 101, 116, 117, 114, 110, 32, 110, 111, 32, 100, 97, 116, 97, 32, 111, 114, 32, 101, 114, 114, 111, 114])]))
def laid_bufio_ErrBufferFull {H : Type} : DataW H := .iface "*errors.errorString" (.ptr (.agg [.lit (.string [98, 117, 102, 105, 111, 58, 32, 98, 117, 102, 102, 101, 114, 32, 102, 117, 108, 108])]))
def laid_bufio_ErrNegativeCount {H : Type} : DataW H := .iface "*errors.errorString" (.ptr (.agg [.lit (.string [98, 117, 102, 105, 111, 58, 32, 110, 101, 103, 97, 116, 105, 118, 101, 32, 99, 111, 117, 110, 116])]))
def laid_bufio_errNegativeRead {H : Type} : DataW H := .iface "*errors.errorString" (.ptr (.agg [.lit (.string [98, 117, 102, 105, 111, 58, 32, 114, 101, 97, 100, 101, 114, 32, 114, 101, 116, 117, 114, 110, 101, 100, 32, 110, 101, 103, 97, 116, 105, 118, 101, 32, 99, 111, 117, 110, 116, 32, 102, 114, 111, 109, 32, 82, 101, 97, 100])]))

/-- 'zzlaws_pkg_mcbin_b1.FnWriteRequestParsesBack': WHATEVER THE INPUT: true; the input reads as it did. -/
def fnWriteRequestParsesBackSpec : ChangeSpec := { name := "fnWriteRequestParsesBack", fn := fun _ => fun
  | [d1, d2, d3, d4, d5, d6, d7, d8, d9] => { results := [.lit (.bool true)], args := [d1, d2, d3, d4, d5, d6, d7, d8, d9] }
  | _ => none }
def fnWriteRequestParsesBackRow : OpenClaim := { program := "qxb6615679afmt", sum := "a088d5e0fe2264142badd5894c2fdbcb2d727c77d095031c5726807662ffb43f", func := "example.com/tideshift/tideshift/zzlaws_pkg_mcbin_b1.FnWriteRequestParsesBack", spec := "fnWriteRequestParsesBack", stops := ["fmt.Sprintf, its operands' methods called", "fmt.errorf"], inPlace := ["fmt.errorf"], unfollowed := true, recurses := true, named := ["encoding/binary.BigEndian", "io.ErrShortWrite"], apart := false, laid := [("io.ErrShortWrite", laid_io_ErrShortWrite)] }
/-- NO THEOREM (fmt's text is open here; it may be false): for the released tool's asking of the row's closed facts alone. THE STATEMENT IS 'FnWriteRequestParsesBackToldSaid' (Qxb6615679aFmtCards.lean). -/
def FnWriteRequestParsesBackFormAsk : Prop := fnWriteRequestParsesBackRow.holds Tryf.pinned (OpenSpec.ofChange fnWriteRequestParsesBackSpec)

/-- ITS FALSE NEIGHBOUR: 'it returns false'. Refute it at one input. -/
def fnWriteRequestParsesBackWrong : ChangeSpec := { name := "fnWriteRequestParsesBack", fn := fun _ => fun
  | [d1, d2, d3, d4, d5, d6, d7, d8, d9] => { results := [.lit (.bool false)], args := [d1, d2, d3, d4, d5, d6, d7, d8, d9] }
  | _ => none }
def FnWriteRequestParsesBackWrongFormAsk : Prop := fnWriteRequestParsesBackRow.holds Tryf.pinned (OpenSpec.ofChange fnWriteRequestParsesBackWrong)

/-- 'zzlaws_pkg_mcbin_b1.FnWriteResponseParsesBack': WHATEVER THE INPUT: true; the input reads as it did. -/
def fnWriteResponseParsesBackSpec : ChangeSpec := { name := "fnWriteResponseParsesBack", fn := fun _ => fun
  | [d1, d2, d3, d4, d5, d6, d7, d8] => { results := [.lit (.bool true)], args := [d1, d2, d3, d4, d5, d6, d7, d8] }
  | _ => none }
def fnWriteResponseParsesBackRow : OpenClaim := { program := "qxb6615679afmt", sum := "a088d5e0fe2264142badd5894c2fdbcb2d727c77d095031c5726807662ffb43f", func := "example.com/tideshift/tideshift/zzlaws_pkg_mcbin_b1.FnWriteResponseParsesBack", spec := "fnWriteResponseParsesBack", stops := ["fmt.Sprintf, its operands' methods called", "fmt.errorf"], inPlace := ["fmt.errorf", "fmt.Sprintf"], unfollowed := true, recurses := true, named := ["encoding/binary.BigEndian", "io.ErrShortWrite", "bufio.ErrNegativeCount", "bufio.ErrBufferFull", "bufio.errNegativeRead", "io.ErrNoProgress"], apart := false, laid := [("io.ErrShortWrite", laid_io_ErrShortWrite), ("io.ErrNoProgress", laid_io_ErrNoProgress), ("bufio.ErrBufferFull", laid_bufio_ErrBufferFull), ("bufio.ErrNegativeCount", laid_bufio_ErrNegativeCount), ("bufio.errNegativeRead", laid_bufio_errNegativeRead)] }
/-- NO THEOREM (fmt's text is open here; it may be false): for the released tool's asking of the row's closed facts alone. THE STATEMENT IS 'FnWriteResponseParsesBackToldSaid' (Qxb6615679aFmtCards.lean). -/
def FnWriteResponseParsesBackFormAsk : Prop := fnWriteResponseParsesBackRow.holds Tryf.pinned (OpenSpec.ofChange fnWriteResponseParsesBackSpec)

/-- ITS FALSE NEIGHBOUR: 'it returns false'. Refute it at one input. -/
def fnWriteResponseParsesBackWrong : ChangeSpec := { name := "fnWriteResponseParsesBack", fn := fun _ => fun
  | [d1, d2, d3, d4, d5, d6, d7, d8] => { results := [.lit (.bool false)], args := [d1, d2, d3, d4, d5, d6, d7, d8] }
  | _ => none }
def FnWriteResponseParsesBackWrongFormAsk : Prop := fnWriteResponseParsesBackRow.holds Tryf.pinned (OpenSpec.ofChange fnWriteResponseParsesBackWrong)

/-- 'zzlaws_pkg_mcbin_b1.FnWriteResponseIsWriteRequestButMagic': WHATEVER THE INPUT: true; the input reads as it did. -/
def fnWriteResponseIsWriteRequestButMagicSpec : ChangeSpec := { name := "fnWriteResponseIsWriteRequestButMagic", fn := fun _ => fun
  | [d1, d2, d3, d4, d5, d6, d7, d8] => { results := [.lit (.bool true)], args := [d1, d2, d3, d4, d5, d6, d7, d8] }
  | _ => none }
def fnWriteResponseIsWriteRequestButMagicRow : OpenClaim := { program := "qxb6615679afmt", sum := "a088d5e0fe2264142badd5894c2fdbcb2d727c77d095031c5726807662ffb43f", func := "example.com/tideshift/tideshift/zzlaws_pkg_mcbin_b1.FnWriteResponseIsWriteRequestButMagic", spec := "fnWriteResponseIsWriteRequestButMagic", stops := ["fmt.Sprintf, its operands' methods called", "fmt.errorf"], inPlace := ["fmt.errorf"], unfollowed := true, recurses := true, named := ["encoding/binary.BigEndian", "io.ErrShortWrite"], apart := false, laid := [("io.ErrShortWrite", laid_io_ErrShortWrite)] }
/-- NO THEOREM (fmt's text is open here; it may be false): for the released tool's asking of the row's closed facts alone. THE STATEMENT IS 'FnWriteResponseIsWriteRequestButMagicToldSaid' (Qxb6615679aFmtCards.lean). -/
def FnWriteResponseIsWriteRequestButMagicFormAsk : Prop := fnWriteResponseIsWriteRequestButMagicRow.holds Tryf.pinned (OpenSpec.ofChange fnWriteResponseIsWriteRequestButMagicSpec)

/-- ITS FALSE NEIGHBOUR: 'it returns false'. Refute it at one input. -/
def fnWriteResponseIsWriteRequestButMagicWrong : ChangeSpec := { name := "fnWriteResponseIsWriteRequestButMagic", fn := fun _ => fun
  | [d1, d2, d3, d4, d5, d6, d7, d8] => { results := [.lit (.bool false)], args := [d1, d2, d3, d4, d5, d6, d7, d8] }
  | _ => none }
def FnWriteResponseIsWriteRequestButMagicWrongFormAsk : Prop := fnWriteResponseIsWriteRequestButMagicRow.holds Tryf.pinned (OpenSpec.ofChange fnWriteResponseIsWriteRequestButMagicWrong)

/-- 'zzlaws_pkg_mcbin_b1.FnPacketLenOfWrittenPacketAtAnyCut': WHATEVER THE INPUT: true; the input reads as it did. -/
def fnPacketLenOfWrittenPacketAtAnyCutSpec : ChangeSpec := { name := "fnPacketLenOfWrittenPacketAtAnyCut", fn := fun _ => fun
  | [d1, d2, d3, d4, d5, d6, d7, d8, d9, d10] => { results := [.lit (.bool true)], args := [d1, d2, d3, d4, d5, d6, d7, d8, d9, d10] }
  | _ => none }
def fnPacketLenOfWrittenPacketAtAnyCutRow : OpenClaim := { program := "qxb6615679afmt", sum := "a088d5e0fe2264142badd5894c2fdbcb2d727c77d095031c5726807662ffb43f", func := "example.com/tideshift/tideshift/zzlaws_pkg_mcbin_b1.FnPacketLenOfWrittenPacketAtAnyCut", spec := "fnPacketLenOfWrittenPacketAtAnyCut", stops := ["fmt.Sprintf, its operands' methods called", "fmt.errorf"], inPlace := ["fmt.errorf", "fmt.Sprintf"], unfollowed := true, recurses := true, named := ["encoding/binary.BigEndian", "io.ErrShortWrite", "bufio.ErrNegativeCount", "bufio.ErrBufferFull", "bufio.errNegativeRead", "io.ErrNoProgress"], apart := false, laid := [("io.ErrShortWrite", laid_io_ErrShortWrite), ("io.ErrNoProgress", laid_io_ErrNoProgress), ("bufio.ErrBufferFull", laid_bufio_ErrBufferFull), ("bufio.ErrNegativeCount", laid_bufio_ErrNegativeCount), ("bufio.errNegativeRead", laid_bufio_errNegativeRead)] }
/-- NO THEOREM (fmt's text is open here; it may be false): for the released tool's asking of the row's closed facts alone. THE STATEMENT IS 'FnPacketLenOfWrittenPacketAtAnyCutToldSaid' (Qxb6615679aFmtCards.lean). -/
def FnPacketLenOfWrittenPacketAtAnyCutFormAsk : Prop := fnPacketLenOfWrittenPacketAtAnyCutRow.holds Tryf.pinned (OpenSpec.ofChange fnPacketLenOfWrittenPacketAtAnyCutSpec)

/-- ITS FALSE NEIGHBOUR: 'it returns false'. Refute it at one input. -/
def fnPacketLenOfWrittenPacketAtAnyCutWrong : ChangeSpec := { name := "fnPacketLenOfWrittenPacketAtAnyCut", fn := fun _ => fun
  | [d1, d2, d3, d4, d5, d6, d7, d8, d9, d10] => { results := [.lit (.bool false)], args := [d1, d2, d3, d4, d5, d6, d7, d8, d9, d10] }
  | _ => none }
def FnPacketLenOfWrittenPacketAtAnyCutWrongFormAsk : Prop := fnPacketLenOfWrittenPacketAtAnyCutRow.holds Tryf.pinned (OpenSpec.ofChange fnPacketLenOfWrittenPacketAtAnyCutWrong)

/-- 'zzlaws_pkg_mcbin_b1.FnPacketLenAcceptsOnlyWhatRewrites': WHATEVER THE INPUT: true; the input reads as it did. -/
def fnPacketLenAcceptsOnlyWhatRewritesSpec : ChangeSpec := { name := "fnPacketLenAcceptsOnlyWhatRewrites", fn := fun _ => fun
  | [d] => { results := [.lit (.bool true)], args := [d] }
  | _ => none }
def fnPacketLenAcceptsOnlyWhatRewritesRow : OpenClaim := { program := "qxb6615679afmt", sum := "a088d5e0fe2264142badd5894c2fdbcb2d727c77d095031c5726807662ffb43f", func := "example.com/tideshift/tideshift/zzlaws_pkg_mcbin_b1.FnPacketLenAcceptsOnlyWhatRewrites", spec := "fnPacketLenAcceptsOnlyWhatRewrites", stops := ["fmt.Sprintf, its operands' methods called", "fmt.errorf"], inPlace := ["fmt.Sprintf", "fmt.errorf"], unfollowed := true, recurses := true, named := ["bufio.ErrNegativeCount", "bufio.ErrBufferFull", "bufio.errNegativeRead", "io.ErrNoProgress", "encoding/binary.BigEndian", "io.ErrShortWrite"], apart := false, laid := [("io.ErrShortWrite", laid_io_ErrShortWrite), ("io.ErrNoProgress", laid_io_ErrNoProgress), ("bufio.ErrBufferFull", laid_bufio_ErrBufferFull), ("bufio.ErrNegativeCount", laid_bufio_ErrNegativeCount), ("bufio.errNegativeRead", laid_bufio_errNegativeRead)] }
/-- NO THEOREM (fmt's text is open here; it may be false): for the released tool's asking of the row's closed facts alone. THE STATEMENT IS 'FnPacketLenAcceptsOnlyWhatRewritesToldSaid' (Qxb6615679aFmtCards.lean). -/
def FnPacketLenAcceptsOnlyWhatRewritesFormAsk : Prop := fnPacketLenAcceptsOnlyWhatRewritesRow.holds Tryf.pinned (OpenSpec.ofChange fnPacketLenAcceptsOnlyWhatRewritesSpec)

/-- ITS FALSE NEIGHBOUR: 'it returns false'. Refute it at one input. -/
def fnPacketLenAcceptsOnlyWhatRewritesWrong : ChangeSpec := { name := "fnPacketLenAcceptsOnlyWhatRewrites", fn := fun _ => fun
  | [d] => { results := [.lit (.bool false)], args := [d] }
  | _ => none }
def FnPacketLenAcceptsOnlyWhatRewritesWrongFormAsk : Prop := fnPacketLenAcceptsOnlyWhatRewritesRow.holds Tryf.pinned (OpenSpec.ofChange fnPacketLenAcceptsOnlyWhatRewritesWrong)

/-- 'zzlaws_pkg_mcbin_b1.FnRequestReadsWhatWriteRequestWrote': WHATEVER THE INPUT: true; the input reads as it did. -/
def fnRequestReadsWhatWriteRequestWroteSpec : ChangeSpec := { name := "fnRequestReadsWhatWriteRequestWrote", fn := fun _ => fun
  | [d1, d2, d3, d4, d5, d6, d7, d8, d9] => { results := [.lit (.bool true)], args := [d1, d2, d3, d4, d5, d6, d7, d8, d9] }
  | _ => none }
def fnRequestReadsWhatWriteRequestWroteRow : OpenClaim := { program := "qxb6615679afmt", sum := "a088d5e0fe2264142badd5894c2fdbcb2d727c77d095031c5726807662ffb43f", func := "example.com/tideshift/tideshift/zzlaws_pkg_mcbin_b1.FnRequestReadsWhatWriteRequestWrote", spec := "fnRequestReadsWhatWriteRequestWrote", stops := ["fmt.Sprintf, its operands' methods called", "fmt.errorf"], inPlace := ["fmt.errorf"], unfollowed := true, recurses := true, named := ["encoding/binary.BigEndian", "io.ErrShortWrite"], apart := false, laid := [("io.ErrShortWrite", laid_io_ErrShortWrite)] }
/-- NO THEOREM (fmt's text is open here; it may be false): for the released tool's asking of the row's closed facts alone. THE STATEMENT IS 'FnRequestReadsWhatWriteRequestWroteToldSaid' (Qxb6615679aFmtCards.lean). -/
def FnRequestReadsWhatWriteRequestWroteFormAsk : Prop := fnRequestReadsWhatWriteRequestWroteRow.holds Tryf.pinned (OpenSpec.ofChange fnRequestReadsWhatWriteRequestWroteSpec)

/-- ITS FALSE NEIGHBOUR: 'it returns false'. Refute it at one input. -/
def fnRequestReadsWhatWriteRequestWroteWrong : ChangeSpec := { name := "fnRequestReadsWhatWriteRequestWrote", fn := fun _ => fun
  | [d1, d2, d3, d4, d5, d6, d7, d8, d9] => { results := [.lit (.bool false)], args := [d1, d2, d3, d4, d5, d6, d7, d8, d9] }
  | _ => none }
def FnRequestReadsWhatWriteRequestWroteWrongFormAsk : Prop := fnRequestReadsWhatWriteRequestWroteRow.holds Tryf.pinned (OpenSpec.ofChange fnRequestReadsWhatWriteRequestWroteWrong)

end Rows
end Go.Proofs.Qxb6615679aFmt
