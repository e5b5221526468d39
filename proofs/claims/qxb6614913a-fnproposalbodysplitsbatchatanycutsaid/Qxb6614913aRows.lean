/-
  No cell of these rows narrows 'for every input' (looked for: loops, veiled, ifaces, maps, wideKeys, modest, calm, conditions, laid).
  DERIVED. THE GIVEN ROWS OF THIS SEAT. 1 by the template 'for every input the law returns true; each argument reads behind the call as it read before'; 0 by the template 'total and deterministic' (their statements: Qxb6614913aTotals.lean).
  GIVEN WITH THE SEED: the statements are not yours to turn. If you find one false, say at which input.
  Laid BY PROGRAM, IN A SANDBOX (cutbox-rows.mjs): the forced cells as the released guide's own fill.sh prints them over the translation 03af9ea9854d79bf… (all of the seat's roots in one cut). By AI agents, Wed Nov 11 2026. No macro, syntax, notation, axiom, sorry.
-/
import Derived.Test.Qxb6614913aChecked
import GoSem.Claim
import GoSem.ClaimJoined
import GoSem.ClaimMapViews
import Derived.JoinedTies
import Derived.KernelRfl
namespace Go.Proofs.Qxb6614913a
/- THE CELL 'sum', in the pinned program and in every row, IS THE sha256 OF THE DUMP (.gsa) THAT Qxb6614913aProg.lean LOADS. Nothing in Lean hashes anything: it is a label: what it is worth is what the hold of that sum in a sandbox is worth. -/
noncomputable def Try.pinned : Pinned := { name := "qxb6614913a", sum := "03af9ea9854d79bf5d646b91e53848e84e36587e856fc212db1d93f166ad9622", checked := Try.checked }
namespace Rows
def none {H : Type} : Left H := { results := [], args := [] }

/-- 'zzlaws_root_b1.FnProposalBodySplitsBatchAtAnyCut': WHATEVER THE INPUT: true; the input reads as it did. -/
def fnProposalBodySplitsBatchAtAnyCutSpec : ChangeSpec := { name := "fnProposalBodySplitsBatchAtAnyCut", fn := fun _ => fun
  | [d1, d2, d3, d4, d5, d6] => { results := [.lit (.bool true)], args := [d1, d2, d3, d4, d5, d6] }
  | _ => none }
def fnProposalBodySplitsBatchAtAnyCutRow : OpenClaim := { program := "qxb6614913a", sum := "03af9ea9854d79bf5d646b91e53848e84e36587e856fc212db1d93f166ad9622", func := "example.com/coterie/coterie/zzlaws_root_b1.FnProposalBodySplitsBatchAtAnyCut", spec := "fnProposalBodySplitsBatchAtAnyCut", apart := false }
def FnProposalBodySplitsBatchAtAnyCutSaid : Prop := fnProposalBodySplitsBatchAtAnyCutRow.holds Try.pinned (OpenSpec.ofChange fnProposalBodySplitsBatchAtAnyCutSpec)

/-- ITS FALSE NEIGHBOUR: 'it returns false'. Refute it at one input. -/
def fnProposalBodySplitsBatchAtAnyCutWrong : ChangeSpec := { name := "fnProposalBodySplitsBatchAtAnyCut", fn := fun _ => fun
  | [d1, d2, d3, d4, d5, d6] => { results := [.lit (.bool false)], args := [d1, d2, d3, d4, d5, d6] }
  | _ => none }
def FnProposalBodySplitsBatchAtAnyCutWrongFalsely : Prop := fnProposalBodySplitsBatchAtAnyCutRow.holds Try.pinned (OpenSpec.ofChange fnProposalBodySplitsBatchAtAnyCutWrong)

end Rows
end Go.Proofs.Qxb6614913a
