/-
  No cell of these rows narrows 'for every input' (looked for: loops, veiled, ifaces, maps, wideKeys, modest, calm, conditions, laid).
  DERIVED. THE GIVEN ROWS OF THIS SEAT. 2 by the template 'for every input the law returns true; each argument reads behind the call as it read before'; 0 by the template 'total and deterministic' (their statements: Qxb6616080aTotals.lean).
  GIVEN WITH THE SEED: the statements are not yours to turn. If you find one false, say at which input.
  Laid BY PROGRAM, IN A SANDBOX (cutbox-rows.mjs): the forced cells as the released guide's own fill.sh prints them over the translation 2e85dfa65c912572… (all of the seat's roots in one cut). By AI agents, Wed Nov 11 2026. No macro, syntax, notation, axiom, sorry.
-/
import Derived.Test.Qxb6616080aChecked
import GoSem.Claim
import GoSem.ClaimJoined
import GoSem.ClaimMapViews
import Derived.JoinedTies
import Derived.KernelRfl
namespace Go.Proofs.Qxb6616080a
/- THE CELL 'sum', in the pinned program and in every row, IS THE sha256 OF THE DUMP (.gsa) THAT Qxb6616080aProg.lean LOADS. Nothing in Lean hashes anything: it is a label: what it is worth is what the hold of that sum in a sandbox is worth. -/
noncomputable def Try.pinned : Pinned := { name := "qxb6616080a", sum := "2e85dfa65c912572ebee209f148ea01d6c17b0252f3fcaae25450fe349aa3a3c", checked := Try.checked }
namespace Rows
def none {H : Type} : Left H := { results := [], args := [] }

/-- 'zzlaws_history_b1.FnUnplaceKeepsTheSearchWhole': WHATEVER THE INPUT: true; the input reads as it did. -/
def fnUnplaceKeepsTheSearchWholeSpec : ChangeSpec := { name := "fnUnplaceKeepsTheSearchWhole", fn := fun _ => fun
  | [d1, d2, d3, d4] => { results := [.lit (.bool true)], args := [d1, d2, d3, d4] }
  | _ => none }
def fnUnplaceKeepsTheSearchWholeRow : OpenClaim := { program := "qxb6616080a", sum := "2e85dfa65c912572ebee209f148ea01d6c17b0252f3fcaae25450fe349aa3a3c", func := "example.com/causeline/causeline/zzlaws_history_b1.FnUnplaceKeepsTheSearchWhole", spec := "fnUnplaceKeepsTheSearchWhole", apart := false }
def FnUnplaceKeepsTheSearchWholeSaid : Prop := fnUnplaceKeepsTheSearchWholeRow.holds Try.pinned (OpenSpec.ofChange fnUnplaceKeepsTheSearchWholeSpec)

/-- ITS FALSE NEIGHBOUR: 'it returns false'. Refute it at one input. -/
def fnUnplaceKeepsTheSearchWholeWrong : ChangeSpec := { name := "fnUnplaceKeepsTheSearchWhole", fn := fun _ => fun
  | [d1, d2, d3, d4] => { results := [.lit (.bool false)], args := [d1, d2, d3, d4] }
  | _ => none }
def FnUnplaceKeepsTheSearchWholeWrongFalsely : Prop := fnUnplaceKeepsTheSearchWholeRow.holds Try.pinned (OpenSpec.ofChange fnUnplaceKeepsTheSearchWholeWrong)

/-- 'zzlaws_history_b1.FnUnplaceEverythingHashesToZero': WHATEVER THE INPUT: true; the input reads as it did. -/
def fnUnplaceEverythingHashesToZeroSpec : ChangeSpec := { name := "fnUnplaceEverythingHashesToZero", fn := fun _ => fun
  | [d1, d2] => { results := [.lit (.bool true)], args := [d1, d2] }
  | _ => none }
def fnUnplaceEverythingHashesToZeroRow : OpenClaim := { program := "qxb6616080a", sum := "2e85dfa65c912572ebee209f148ea01d6c17b0252f3fcaae25450fe349aa3a3c", func := "example.com/causeline/causeline/zzlaws_history_b1.FnUnplaceEverythingHashesToZero", spec := "fnUnplaceEverythingHashesToZero", apart := false }
def FnUnplaceEverythingHashesToZeroSaid : Prop := fnUnplaceEverythingHashesToZeroRow.holds Try.pinned (OpenSpec.ofChange fnUnplaceEverythingHashesToZeroSpec)

/-- ITS FALSE NEIGHBOUR: 'it returns false'. Refute it at one input. -/
def fnUnplaceEverythingHashesToZeroWrong : ChangeSpec := { name := "fnUnplaceEverythingHashesToZero", fn := fun _ => fun
  | [d1, d2] => { results := [.lit (.bool false)], args := [d1, d2] }
  | _ => none }
def FnUnplaceEverythingHashesToZeroWrongFalsely : Prop := fnUnplaceEverythingHashesToZeroRow.holds Try.pinned (OpenSpec.ofChange fnUnplaceEverythingHashesToZeroWrong)

end Rows
end Go.Proofs.Qxb6616080a
