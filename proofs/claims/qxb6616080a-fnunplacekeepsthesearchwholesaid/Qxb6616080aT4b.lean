import Derived.Test.Qxb6616080aT4
namespace Go.Proofs.Qxb6616080a
open Go.RowKit
set_option linter.unusedVariables false
set_option linter.unusedSimpArgs false
set_option maxRecDepth 100000
theorem seq4_6 : (sub [1, 1, 1, 1, 1, 1] (Try.f4.body.getD .skip)) = .seq (sub [1, 1, 1, 1, 1, 1, 0] (Try.f4.body.getD .skip)) (sub [1, 1, 1, 1, 1, 1, 1] (Try.f4.body.getD .skip)) := by kernel_rfl
theorem seq4_7 : (sub [1, 1, 1, 1, 1, 1, 1] (Try.f4.body.getD .skip)) = .seq (sub [1, 1, 1, 1, 1, 1, 1, 0] (Try.f4.body.getD .skip)) (sub [1, 1, 1, 1, 1, 1, 1, 1] (Try.f4.body.getD .skip)) := by kernel_rfl
theorem seq4_8 : (sub [1, 1, 1, 1, 1, 1, 1, 1] (Try.f4.body.getD .skip)) = .seq (sub [1, 1, 1, 1, 1, 1, 1, 1, 0] (Try.f4.body.getD .skip)) (sub [1, 1, 1, 1, 1, 1, 1, 1, 1] (Try.f4.body.getD .skip)) := by kernel_rfl
theorem seq4_9 : (sub [1, 1, 1, 1, 1, 1, 1, 1, 1] (Try.f4.body.getD .skip)) = .seq (sub [1, 1, 1, 1, 1, 1, 1, 1, 1, 0] (Try.f4.body.getD .skip)) (sub [1, 1, 1, 1, 1, 1, 1, 1, 1, 1] (Try.f4.body.getD .skip)) := by kernel_rfl
theorem seq4_10 : (sub [1, 1, 1, 1, 1, 1, 1, 1, 1, 1] (Try.f4.body.getD .skip)) = .seq (sub [1, 1, 1, 1, 1, 1, 1, 1, 1, 1, 0] (Try.f4.body.getD .skip)) (sub [1, 1, 1, 1, 1, 1, 1, 1, 1, 1, 1] (Try.f4.body.getD .skip)) := by kernel_rfl
theorem seq4_11 : (sub [1, 1, 1, 1, 1, 1, 1, 1, 1, 1, 1] (Try.f4.body.getD .skip)) = .seq (sub [1, 1, 1, 1, 1, 1, 1, 1, 1, 1, 1, 0] (Try.f4.body.getD .skip)) (sub [1, 1, 1, 1, 1, 1, 1, 1, 1, 1, 1, 1] (Try.f4.body.getD .skip)) := by kernel_rfl
theorem seq4_12 : (sub [1, 1, 1, 1, 1, 1, 1, 1, 1, 1, 1, 1] (Try.f4.body.getD .skip)) = .seq (sub [1, 1, 1, 1, 1, 1, 1, 1, 1, 1, 1, 1, 0] (Try.f4.body.getD .skip)) (sub [1, 1, 1, 1, 1, 1, 1, 1, 1, 1, 1, 1, 1] (Try.f4.body.getD .skip)) := by kernel_rfl
theorem seq4_13 : (sub [1, 1, 1, 1, 1, 1, 1, 1, 1, 1, 1, 1, 1] (Try.f4.body.getD .skip)) = .seq (sub [1, 1, 1, 1, 1, 1, 1, 1, 1, 1, 1, 1, 1, 0] (Try.f4.body.getD .skip)) (sub [1, 1, 1, 1, 1, 1, 1, 1, 1, 1, 1, 1, 1, 1] (Try.f4.body.getD .skip)) := by kernel_rfl
theorem frame_f (xs : Array Value) (N : Nat) (h : xs.size = N) : ∀ j, j < N → xs[j]? = some (xs.getD j undef) := fun j hj => by
  rw [Array.getD_eq_getD_getElem?, Array.getElem?_eq_getElem (by omega)]
  rfl
theorem Sz.of {w : World} {T : Ad} {L : Nat → Nat} {E : Env} {D : Dyn} (h : In w T L E D) (hs : Es E) : Sz E D := ⟨hs.n, hs.nc, hs.nv, hs.cl, hs.nl, hs.ll, h.r_seed, h.r_hash, h.r_lw⟩

theorem tail4 {Q : Exit → Act → World → Prop} {w0 W7 : World} {g g5 X H : Nat} {τ : Nat → Nat} {T T2 : Ad} {L : Nat → Nat} {E : Env} {D : Dyn} {xs : Array Value} {c : Code} (hM : Md w0 g g5 τ W7 X H T T2 L E D) (hN : xs.size = 149)
    (h0 : xs.getD 0 undef = .slice T.oA E.n T.oc) (h3 : xs.getD 3 undef = .pointer (some ⟨g, 0, none⟩)) (h5 : xs.getD 5 undef = .pointer (some ⟨g5, 0, none⟩)) (h6 : xs.getD 6 undef = .pointer (some ⟨X, 0, none⟩)) (hc : (sub [1, 1, 1, 1, 1, 1] (Try.f4.body.getD .skip)) = c)
    (hEnd : ∀ (a : Act) (f : Nat → Value) (w' : World), a.defers = [] → (∀ j, j < 149 → a.tmps[j]? = some (f j)) → f 4 = .bool true → Below w0.heap.size w0 w' → Q .ret a w') : Code.wp Try.prog c Q ⟨xs, []⟩ W7 := by
  subst hc
  refine seq_at seq4_6 (t4_6 (a := ⟨xs, []⟩) (f := fun j => xs.getD j undef) hM ⟨h0, h3, h5, h6⟩ rfl (frame_f xs 149 hN) ?_)
  clear h0 h3 h5 h6 hN xs
  intro a f w' D' hD hV hs hI hz
  refine seq_at seq4_7 (t4_7 hM hI hs hD hV ?_)
  clear hD hV hs a f
  intro a f hD hV hs
  refine seq_at seq4_8 (t4_8 hM hI hs hD hV ?_)
  clear hD hV hs a f
  intro a f W hD hV hs hF
  refine seq_at seq4_9 (t4_9 hF hz hs hD hV ?_)
  clear hD hV hs a f
  intro a f hD hV hs
  refine seq_at seq4_10 (t4_10 hs hD hV ?_)
  clear hD hV hs a f
  intro a f hD hV hs h9
  refine seq_at seq4_11 (t4_11 hF hz hs h9 hD hV ?_)
  clear hD hV hs a f h9
  intro a f q hD hV hs h9
  have hF1 := hF.draw q
  refine seq_at seq4_12 (t4_12 hF1 hz hs h9 hD hV ?_)
  clear hD hV hs a f h9
  intro a f hD hV hs
  refine seq_at seq4_13 (t4_13 hF1 hz hs hD hV ?_)
  clear hD hV hs a f
  intro a f q2 hD hV hs
  exact t4_14 (hF1.draw q2) hs hD hV hEnd
end Go.Proofs.Qxb6616080a
