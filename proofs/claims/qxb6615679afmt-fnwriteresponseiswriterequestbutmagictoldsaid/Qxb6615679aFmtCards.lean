/-
  DERIVED. GIVEN WITH THE SEED: THE CARDS: each row of Qxb6615679aFmtRows.lean that lists a variable, with what it lists TIED to the program's text (the seventh form; the later family's looks); each row that meets fmt, with fmt's text TOLD by the authors' own Lean function (tested against real Go, not proved from fmt's source: count such statements apart). THE CARD IS WHAT COUNTS. Prove the row's statement (the work); the ties are given (Qxb6615679aFmtTie.lean); close each card by the builder's one call (the guide's Derived/Test/ToyasCard.lean, 'card_holds'). Laid BY PROGRAM, IN A SANDBOX (cutbox-door.mjs). By AI agents, Wed Nov 11 2026. No macro, syntax, notation, axiom, sorry.
-/
import Derived.Test.Qxb6615679aFmtRows
import GoSem.ClaimSeven
namespace Go.Proofs.Qxb6615679aFmt
namespace Rows

/-- THE TOLD AND TIED CARD OF 'zzlaws_pkg_mcbin_b1.FnWriteRequestParsesBack'. -/
def fnWriteRequestParsesBackCard : Claim7 := { stood := { row := fnWriteRequestParsesBackRow, standIns := [], harness := (true, "f5a3b6399b93972188f84a8f3b4a5db404fc8ac53dfcdb9ac1a49691e6e85e26"), looks := true }, told := true, laidByText := true, laidKinds := [.sentinel], laidTests := true, laidLooks := .later, goes := false }
def FnWriteRequestParsesBackToldSaid : Prop := Claim7.holds Tryf.pinned (.plain (OpenSpec.ofChange fnWriteRequestParsesBackSpec)) fnWriteRequestParsesBackCard
/-- ITS FALSE NEIGHBOUR. Refute it at one input. -/
def FnWriteRequestParsesBackToldWrongFalsely : Prop := Claim7.holds Tryf.pinned (.plain (OpenSpec.ofChange fnWriteRequestParsesBackWrong)) fnWriteRequestParsesBackCard

/-- THE TOLD AND TIED CARD OF 'zzlaws_pkg_mcbin_b1.FnWriteResponseParsesBack'. -/
def fnWriteResponseParsesBackCard : Claim7 := { stood := { row := fnWriteResponseParsesBackRow, standIns := [], harness := (true, "f5a3b6399b93972188f84a8f3b4a5db404fc8ac53dfcdb9ac1a49691e6e85e26"), looks := true }, told := true, laidByText := true, laidKinds := [.sentinel, .sentinel, .sentinel, .sentinel, .sentinel], laidTests := true, laidLooks := .later, goes := false }
def FnWriteResponseParsesBackToldSaid : Prop := Claim7.holds Tryf.pinned (.plain (OpenSpec.ofChange fnWriteResponseParsesBackSpec)) fnWriteResponseParsesBackCard
/-- ITS FALSE NEIGHBOUR. Refute it at one input. -/
def FnWriteResponseParsesBackToldWrongFalsely : Prop := Claim7.holds Tryf.pinned (.plain (OpenSpec.ofChange fnWriteResponseParsesBackWrong)) fnWriteResponseParsesBackCard

/-- THE TOLD AND TIED CARD OF 'zzlaws_pkg_mcbin_b1.FnWriteResponseIsWriteRequestButMagic'. -/
def fnWriteResponseIsWriteRequestButMagicCard : Claim7 := { stood := { row := fnWriteResponseIsWriteRequestButMagicRow, standIns := [], harness := (true, "f5a3b6399b93972188f84a8f3b4a5db404fc8ac53dfcdb9ac1a49691e6e85e26"), looks := true }, told := true, laidByText := true, laidKinds := [.sentinel], laidTests := true, laidLooks := .later, goes := false }
def FnWriteResponseIsWriteRequestButMagicToldSaid : Prop := Claim7.holds Tryf.pinned (.plain (OpenSpec.ofChange fnWriteResponseIsWriteRequestButMagicSpec)) fnWriteResponseIsWriteRequestButMagicCard
/-- ITS FALSE NEIGHBOUR. Refute it at one input. -/
def FnWriteResponseIsWriteRequestButMagicToldWrongFalsely : Prop := Claim7.holds Tryf.pinned (.plain (OpenSpec.ofChange fnWriteResponseIsWriteRequestButMagicWrong)) fnWriteResponseIsWriteRequestButMagicCard

/-- THE TOLD AND TIED CARD OF 'zzlaws_pkg_mcbin_b1.FnPacketLenOfWrittenPacketAtAnyCut'. -/
def fnPacketLenOfWrittenPacketAtAnyCutCard : Claim7 := { stood := { row := fnPacketLenOfWrittenPacketAtAnyCutRow, standIns := [], harness := (true, "f5a3b6399b93972188f84a8f3b4a5db404fc8ac53dfcdb9ac1a49691e6e85e26"), looks := true }, told := true, laidByText := true, laidKinds := [.sentinel, .sentinel, .sentinel, .sentinel, .sentinel], laidTests := true, laidLooks := .later, goes := false }
def FnPacketLenOfWrittenPacketAtAnyCutToldSaid : Prop := Claim7.holds Tryf.pinned (.plain (OpenSpec.ofChange fnPacketLenOfWrittenPacketAtAnyCutSpec)) fnPacketLenOfWrittenPacketAtAnyCutCard
/-- ITS FALSE NEIGHBOUR. Refute it at one input. -/
def FnPacketLenOfWrittenPacketAtAnyCutToldWrongFalsely : Prop := Claim7.holds Tryf.pinned (.plain (OpenSpec.ofChange fnPacketLenOfWrittenPacketAtAnyCutWrong)) fnPacketLenOfWrittenPacketAtAnyCutCard

/-- THE TOLD AND TIED CARD OF 'zzlaws_pkg_mcbin_b1.FnPacketLenAcceptsOnlyWhatRewrites'. -/
def fnPacketLenAcceptsOnlyWhatRewritesCard : Claim7 := { stood := { row := fnPacketLenAcceptsOnlyWhatRewritesRow, standIns := [], harness := (true, "f5a3b6399b93972188f84a8f3b4a5db404fc8ac53dfcdb9ac1a49691e6e85e26"), looks := true }, told := true, laidByText := true, laidKinds := [.sentinel, .sentinel, .sentinel, .sentinel, .sentinel], laidTests := true, laidLooks := .later, goes := false }
def FnPacketLenAcceptsOnlyWhatRewritesToldSaid : Prop := Claim7.holds Tryf.pinned (.plain (OpenSpec.ofChange fnPacketLenAcceptsOnlyWhatRewritesSpec)) fnPacketLenAcceptsOnlyWhatRewritesCard
/-- ITS FALSE NEIGHBOUR. Refute it at one input. -/
def FnPacketLenAcceptsOnlyWhatRewritesToldWrongFalsely : Prop := Claim7.holds Tryf.pinned (.plain (OpenSpec.ofChange fnPacketLenAcceptsOnlyWhatRewritesWrong)) fnPacketLenAcceptsOnlyWhatRewritesCard

/-- THE TOLD AND TIED CARD OF 'zzlaws_pkg_mcbin_b1.FnRequestReadsWhatWriteRequestWrote'. -/
def fnRequestReadsWhatWriteRequestWroteCard : Claim7 := { stood := { row := fnRequestReadsWhatWriteRequestWroteRow, standIns := [], harness := (true, "f5a3b6399b93972188f84a8f3b4a5db404fc8ac53dfcdb9ac1a49691e6e85e26"), looks := true }, told := true, laidByText := true, laidKinds := [.sentinel], laidTests := true, laidLooks := .later, goes := false }
def FnRequestReadsWhatWriteRequestWroteToldSaid : Prop := Claim7.holds Tryf.pinned (.plain (OpenSpec.ofChange fnRequestReadsWhatWriteRequestWroteSpec)) fnRequestReadsWhatWriteRequestWroteCard
/-- ITS FALSE NEIGHBOUR. Refute it at one input. -/
def FnRequestReadsWhatWriteRequestWroteToldWrongFalsely : Prop := Claim7.holds Tryf.pinned (.plain (OpenSpec.ofChange fnRequestReadsWhatWriteRequestWroteWrong)) fnRequestReadsWhatWriteRequestWroteCard
end Rows
end Go.Proofs.Qxb6615679aFmt
