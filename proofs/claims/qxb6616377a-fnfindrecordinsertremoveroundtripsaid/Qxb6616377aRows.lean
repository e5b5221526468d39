/-
  No cell of these rows narrows 'for every input' (looked for: loops, veiled, ifaces, maps, wideKeys, modest, calm, conditions, laid).
  DERIVED. THE GIVEN ROWS OF THIS SEAT. 2 by the template 'for every input the law returns true; each argument reads behind the call as it read before'; 0 by the template 'total and deterministic' (their statements: Qxb6616377aTotals.lean).
  GIVEN WITH THE SEED: the statements are not yours to turn. If you find one false, say at which input.
  Laid BY PROGRAM, IN A SANDBOX (cutbox-rows.mjs): the forced cells as the released guide's own fill.sh prints them over the translation c49598c0dd03381e… (all of the seat's roots in one cut). By AI agents, Wed Nov 11 2026. No macro, syntax, notation, axiom, sorry.
-/
import Derived.Test.Qxb6616377aChecked
import GoSem.Claim
import GoSem.ClaimJoined
import GoSem.ClaimMapViews
import Derived.JoinedTies
import Derived.KernelRfl
namespace Go.Proofs.Qxb6616377a
/- THE CELL 'sum', in the pinned program and in every row, IS THE sha256 OF THE DUMP (.gsa) THAT Qxb6616377aProg.lean LOADS. Nothing in Lean hashes anything: it is a label: what it is worth is what the hold of that sum in a sandbox is worth. -/
noncomputable def Try.pinned : Pinned := { name := "qxb6616377a", sum := "c49598c0dd03381e8fb695ae85009ae63fdc2752d6626e0b605870b5946d289b", checked := Try.checked }
namespace Rows
def none {H : Type} : Left H := { results := [], args := [] }

/-- 'zzlaws_internal_server_b1.FnFindRecordIsCountOfSmaller': WHATEVER THE INPUT: true; the input reads as it did. -/
def fnFindRecordIsCountOfSmallerSpec : ChangeSpec := { name := "fnFindRecordIsCountOfSmaller", fn := fun _ => fun
  | [d1, d2] => { results := [.lit (.bool true)], args := [d1, d2] }
  | _ => none }
def fnFindRecordIsCountOfSmallerRow : OpenClaim := { program := "qxb6616377a", sum := "c49598c0dd03381e8fb695ae85009ae63fdc2752d6626e0b605870b5946d289b", func := "example.com/emberpool/emberpool/zzlaws_internal_server_b1.FnFindRecordIsCountOfSmaller", spec := "fnFindRecordIsCountOfSmaller", unfollowed := true, recurses := true, apart := false }
def FnFindRecordIsCountOfSmallerSaid : Prop := fnFindRecordIsCountOfSmallerRow.holds Try.pinned (OpenSpec.ofChange fnFindRecordIsCountOfSmallerSpec)

/-- ITS FALSE NEIGHBOUR: 'it returns false'. Refute it at one input. -/
def fnFindRecordIsCountOfSmallerWrong : ChangeSpec := { name := "fnFindRecordIsCountOfSmaller", fn := fun _ => fun
  | [d1, d2] => { results := [.lit (.bool false)], args := [d1, d2] }
  | _ => none }
def FnFindRecordIsCountOfSmallerWrongFalsely : Prop := fnFindRecordIsCountOfSmallerRow.holds Try.pinned (OpenSpec.ofChange fnFindRecordIsCountOfSmallerWrong)

/-- 'zzlaws_internal_server_b1.FnFindRecordInsertRemoveRoundTrip': WHATEVER THE INPUT: true; the input reads as it did. -/
def fnFindRecordInsertRemoveRoundTripSpec : ChangeSpec := { name := "fnFindRecordInsertRemoveRoundTrip", fn := fun _ => fun
  | [d1, d2] => { results := [.lit (.bool true)], args := [d1, d2] }
  | _ => none }
def fnFindRecordInsertRemoveRoundTripRow : OpenClaim := { program := "qxb6616377a", sum := "c49598c0dd03381e8fb695ae85009ae63fdc2752d6626e0b605870b5946d289b", func := "example.com/emberpool/emberpool/zzlaws_internal_server_b1.FnFindRecordInsertRemoveRoundTrip", spec := "fnFindRecordInsertRemoveRoundTrip", unfollowed := true, recurses := true, apart := false }
def FnFindRecordInsertRemoveRoundTripSaid : Prop := fnFindRecordInsertRemoveRoundTripRow.holds Try.pinned (OpenSpec.ofChange fnFindRecordInsertRemoveRoundTripSpec)

/-- ITS FALSE NEIGHBOUR: 'it returns false'. Refute it at one input. -/
def fnFindRecordInsertRemoveRoundTripWrong : ChangeSpec := { name := "fnFindRecordInsertRemoveRoundTrip", fn := fun _ => fun
  | [d1, d2] => { results := [.lit (.bool false)], args := [d1, d2] }
  | _ => none }
def FnFindRecordInsertRemoveRoundTripWrongFalsely : Prop := fnFindRecordInsertRemoveRoundTripRow.holds Try.pinned (OpenSpec.ofChange fnFindRecordInsertRemoveRoundTripWrong)

end Rows
end Go.Proofs.Qxb6616377a
