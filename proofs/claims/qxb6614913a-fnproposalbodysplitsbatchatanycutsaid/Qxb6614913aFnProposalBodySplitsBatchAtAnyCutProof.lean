/- 'Rows.FnProposalBodySplitsBatchAtAnyCutSaid' PROVED. The frame: the kit's shell of a bare row, turned to this one; the walk: Qxb6614913aApp, WalkA to WalkQ. -/
import Derived.Test.Qxb6614913aRows
import Derived.Test.Qxb6614913aWalkQ
import Derived.WalkKit
import Derived.ProofKit
import Derived.OpenShut
import Derived.ShutString
import Derived.ChangeOld
import Derived.Below
namespace Go.Proofs.Qxb6614913a.fnProposalBodySplitsBatchAtAnyCut
open Go.ChangeShapes Go.WideShapes Go.ChangeAt Go.RowKit
open Go.ChangeMaps (open_string shut_string)
set_option linter.unusedVariables false

theorem own : ownKnob Try.prog.godebug = none := by kernel_rfl
theorem laidOut : laidOutB Try.prog = true := by kernel_rfl

theorem below {W W' : World} (h : W.grownBy W' none) : Below W.heap.size W W' := ⟨h.os, h.tape, h.output, h.size, fun k hk => h.block k hk (by simp)⟩

set_option maxRecDepth 100000 in
theorem lifted (os : Os) (started : os.Started) (H : Type) (enc : TypeId × Value → H) :
    ReturnsInHanded {} Try.checked os 3 .any (Rows.fnProposalBodySplitsBatchAtAnyCutSpec.pre6 enc Try.prog Try.f3 Rows.fnProposalBodySplitsBatchAtAnyCutRow.domain false) (Rows.fnProposalBodySplitsBatchAtAnyCutSpec.post enc Try.prog Try.f3 false true false false) := by
  refine returnsInHanded_of_change (C := Try.checked) own started (by kernel_rfl) Try.func3
    (ChangeSpec.witness6 (enc := enc) (C := Try.checked) false ⟨#[], #[.slice none 0 0, .int .u64 0, .int .u64 0, .int .u64 0, .slice none 0 0, .int .i64 0], []⟩ 8 (by kernel_rfl) (by kernel_rfl) (by kernel_rfl) (by kernel_rfl)) ?_
  intro W base args ds gs before hval0 hW hcnd _
  have hval : ∀ (j : Nat) t v, Try.f3.params[j]? = some t → args[j]? = some v → Value.okWide Try.prog W .any base t v := hval0
  have hW' := hW
  obtain ⟨p, q, hA0, hV, rfl, hfz, hnd⟩ := hW
  have hA : DataW.TrodAll enc Try.prog W 0 (fun _ => true) true Try.f3.params.toList args.toList ds p := hA0
  rw [Try.params3] at hA hval
  obtain ⟨v0, vs0, d0, ds0, p0, q0, hargs, rfl, rfl, h0, r0⟩ := trodAll_cons hA
  obtain ⟨v1, vs1, d1, ds1, p1, q1, rfl, rfl, rfl, h1, r1⟩ := trodAll_cons r0
  obtain ⟨v2, vs2, d2, ds2, p2, q2, rfl, rfl, rfl, h2, r2⟩ := trodAll_cons r1
  obtain ⟨v3, vs3, d3, ds3, p3, q3, rfl, rfl, rfl, h3, r3⟩ := trodAll_cons r2
  obtain ⟨v4, vs4, d4, ds4, p4, q4, rfl, rfl, rfl, h4, r4⟩ := trodAll_cons r3
  obtain ⟨v5, vs5, d5, ds5, p5, q5, rfl, rfl, rfl, h5, r5⟩ := trodAll_cons r4
  obtain ⟨rfl, rfl, rfl⟩ := trodAll_nil r5
  obtain rfl : args = #[v0, v1, v2, v3, v4, v5] := by cases args; simp_all
  obtain ⟨rfl, rfl⟩ := trodVars_none hV
  obtain ⟨a0, len0, cap0, rfl⟩ := okWide_slice Try.underlying22 (hval 0 22 v0 rfl rfl)
  obtain ⟨a4, len4, cap4, rfl⟩ := okWide_slice Try.underlying24 (hval 4 24 v4 rfl rfl)
  have k0 := h0
  have lt0 : ∀ x ∈ p0, x.block < W.heap.size := by obtain ⟨m, hm⟩ := k0; exact DataW.trod_lt m _ _ _ hm
  have k4 := h4
  have lt4 : ∀ x ∈ p4, x.block < W.heap.size := by obtain ⟨m, hm⟩ := k4; exact DataW.trod_lt m _ _ _ hm
  obtain ⟨s, w0, m0⟩ : ∃ s : List UInt8, SliB W a0 len0 cap0 s ∧ len0 ≤ maxLen := by
    obtain ⟨fuel, hf⟩ := h0
    obtain ⟨da, dn, dc, s, e, hs, hm⟩ := open_bytes Try.underlying22 Try.underlying5 (by kernel_rfl) (show DataW.trod enc Try.prog W 0 (fun _ => true) true fuel 22 [.slice a0 len0 cap0] = some (d0, p0) from hf)
    simp at e
    obtain ⟨rfl, rfl, rfl⟩ := e
    exact ⟨s, hs, hm⟩
  obtain ⟨a1, rfl, rfl, rfl, w1⟩ := open_int Try.underlying23 (hval 1 23 v1 rfl rfl) h1
  obtain ⟨a2, rfl, rfl, rfl, w2⟩ := open_int Try.underlying23 (hval 2 23 v2 rfl rfl) h2
  obtain ⟨a3, rfl, rfl, rfl, w3⟩ := open_int Try.underlying23 (hval 3 23 v3 rfl rfl) h3
  obtain ⟨a5, rfl, rfl, rfl, w5⟩ := open_int Try.underlying3 (hval 5 3 v5 rfl rfl) h5
  have walk : Calls Try.prog 3 #[.slice a0 len0 cap0, .int .u64 a1, .int .u64 a2, .int .u64 a3, .slice a4 len4 cap4, .int .i64 a5] W fun e w' => e = .returned (.bool true) ∧ W.grownBy w' none := by
    obtain ⟨u1, u1'⟩ := wf_u64 w1
    obtain ⟨u2, u2'⟩ := wf_u64 w2
    obtain ⟨u3, u3'⟩ := wf_u64 w3
    obtain ⟨fuel, hf⟩ := h4
    rcases open_batch (show DataW.trod enc Try.prog W 0 (fun _ => true) true fuel 24 [.slice a4 len4 cap4] = some (d4, p4) from hf) with ⟨a, c, e⟩ | ⟨b, off, n, c, Ps, e, hn, hl, hP⟩
    · simp at e
      obtain ⟨rfl, rfl, rfl⟩ := e
      exact f3_none a0 len0 cap0 s a1 a2 a3 a4 cap4 a5 W w0 m0 u1 u1' u2 u2' u3 u3'
    · simp at e
      obtain ⟨rfl, rfl, rfl⟩ := e
      exact f3_some a0 len0 cap0 s a1 a2 a3 b off len4 cap4 a5 Ps W w0 m0 hn u1 u1' u2 u2' u3 u3' hl hP
  clear hA0 hval0
  refine walk.mono fun e W' ⟨he, hgr⟩ => ?_
  have bel := below hgr
  subst he
  exact ⟨_, rfl, _, _, _, [], _, [], hW', trodAll_mk1 (shut_bool Try.underlying4 _),
    (trodAll_cons_mk (Below.trod laidOut (by kernel_rfl) (of_decide_eq_true (by kernel_rfl)) k0 bel lt0) (trodAll_cons_mk (shut_int Try.underlying23 w1) (trodAll_cons_mk (shut_int Try.underlying23 w2) (trodAll_cons_mk (shut_int Try.underlying23 w3)
      (trodAll_cons_mk (Below.trod laidOut (by kernel_rfl) (of_decide_eq_true (by kernel_rfl)) k4 bel lt4) (trodAll_cons_mk (shut_int Try.underlying3 w5) trodAll_mk0)))))), rfl, bel.frame _, fun h => by cases h⟩

theorem over : Rows.fnProposalBodySplitsBatchAtAnyCutRow.holds Try.pinned (OpenSpec.ofChange Rows.fnProposalBodySplitsBatchAtAnyCutSpec) :=
  OpenClaim.holds_of_wide 3 Try.f3 rfl rfl rfl rfl rfl rfl rfl ⟨rfl, rfl, rfl, rfl, rfl⟩ rfl rfl rfl rfl rfl (by kernel_rfl) Try.func3 (by kernel_rfl)
    (of_decide_eq_true (by kernel_rfl)) (by unfold Func.isWrapper; first | (rw [if_pos (by decide +kernel)]; kernel_rfl) | (rw [if_neg (by decide +kernel)]; exact ⟨rfl, rfl⟩))
    (fun os started H enc _ => lifted os started H enc)

/-- ████ THE STATEMENT ████ -/
theorem proved : Rows.FnProposalBodySplitsBatchAtAnyCutSaid := over
end Go.Proofs.Qxb6614913a.fnProposalBodySplitsBatchAtAnyCut
