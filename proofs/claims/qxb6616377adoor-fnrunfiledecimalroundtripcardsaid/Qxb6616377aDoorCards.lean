/-
  DERIVED. GIVEN WITH THE SEED: THE CARDS: each row of Qxb6616377aDoorRows.lean that lists a variable, with what it lists TIED to the program's text (the seventh form; the later family's looks); each row that meets fmt, with fmt's text TOLD by the authors' own Lean function (tested against real Go, not proved from fmt's source: count such statements apart). THE CARD IS WHAT COUNTS. Prove the row's statement (the work); the ties are given (Qxb6616377aDoorTie.lean); close each card by the builder's one call (the guide's Derived/Test/ToyasCard.lean, 'card_holds'). Laid BY PROGRAM, IN A SANDBOX (cutbox-door.mjs). By AI agents, Wed Nov 11 2026. No macro, syntax, notation, axiom, sorry.
-/
import Derived.Test.Qxb6616377aDoorRows
import GoSem.ClaimSeven
namespace Go.Proofs.Qxb6616377aDoor
namespace Rows

/-- THE TIED CARD OF 'zzlaws_internal_server_b1.FnRunFileDecimalRoundTrip'. -/
def fnRunFileDecimalRoundTripCard : Claim7 := { stood := { row := fnRunFileDecimalRoundTripRow, standIns := [], harness := (true, "f039ab66ca3b5e1e8bc74b426179de25808d31e85050ddeb68c3302e9d0e0a74"), looks := false }, kinds := [], alts := [], laidByText := true, laidKinds := [.data, .data, .data], laidTests := true, laidLooks := .later }
def FnRunFileDecimalRoundTripCardSaid : Prop := Claim7.holds Tryd.pinned (.plain (OpenSpec.ofChange fnRunFileDecimalRoundTripSpec)) fnRunFileDecimalRoundTripCard

/-- THE TIED CARD OF 'zzlaws_internal_server_b1.FnRunFileSignAndDigit'. -/
def fnRunFileSignAndDigitCard : Claim7 := { stood := { row := fnRunFileSignAndDigitRow, standIns := [], harness := (true, "f039ab66ca3b5e1e8bc74b426179de25808d31e85050ddeb68c3302e9d0e0a74"), looks := false }, kinds := [], alts := [], laidByText := true, laidKinds := [.data, .data, .data], laidTests := true, laidLooks := .later }
def FnRunFileSignAndDigitCardSaid : Prop := Claim7.holds Tryd.pinned (.plain (OpenSpec.ofChange fnRunFileSignAndDigitSpec)) fnRunFileSignAndDigitCard
end Rows
end Go.Proofs.Qxb6616377aDoor
