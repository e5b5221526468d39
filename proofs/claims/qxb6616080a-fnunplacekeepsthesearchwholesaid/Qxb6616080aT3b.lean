import Derived.Test.Qxb6616080aT3
namespace Go.Proofs.Qxb6616080a
open Go.RowKit
set_option linter.unusedVariables false
set_option linter.unusedSimpArgs false
set_option maxRecDepth 100000
theorem seq3_7 : (sub [1, 1, 1, 1, 1, 1, 1] (Try.f3.body.getD .skip)) = .seq (sub [1, 1, 1, 1, 1, 1, 1, 0] (Try.f3.body.getD .skip)) (sub [1, 1, 1, 1, 1, 1, 1, 1] (Try.f3.body.getD .skip)) := by kernel_rfl
theorem seq3_8 : (sub [1, 1, 1, 1, 1, 1, 1, 1] (Try.f3.body.getD .skip)) = .seq (sub [1, 1, 1, 1, 1, 1, 1, 1, 0] (Try.f3.body.getD .skip)) (sub [1, 1, 1, 1, 1, 1, 1, 1, 1] (Try.f3.body.getD .skip)) := by kernel_rfl
theorem seq3_9 : (sub [1, 1, 1, 1, 1, 1, 1, 1, 1] (Try.f3.body.getD .skip)) = .seq (sub [1, 1, 1, 1, 1, 1, 1, 1, 1, 0] (Try.f3.body.getD .skip)) (sub [1, 1, 1, 1, 1, 1, 1, 1, 1, 1] (Try.f3.body.getD .skip)) := by kernel_rfl
theorem seq3_10 : (sub [1, 1, 1, 1, 1, 1, 1, 1, 1, 1] (Try.f3.body.getD .skip)) = .seq (sub [1, 1, 1, 1, 1, 1, 1, 1, 1, 1, 0] (Try.f3.body.getD .skip)) (sub [1, 1, 1, 1, 1, 1, 1, 1, 1, 1, 1] (Try.f3.body.getD .skip)) := by kernel_rfl
theorem seq3_11 : (sub [1, 1, 1, 1, 1, 1, 1, 1, 1, 1, 1] (Try.f3.body.getD .skip)) = .seq (sub [1, 1, 1, 1, 1, 1, 1, 1, 1, 1, 1, 0] (Try.f3.body.getD .skip)) (sub [1, 1, 1, 1, 1, 1, 1, 1, 1, 1, 1, 1] (Try.f3.body.getD .skip)) := by kernel_rfl
theorem seq3_12 : (sub [1, 1, 1, 1, 1, 1, 1, 1, 1, 1, 1, 1] (Try.f3.body.getD .skip)) = .seq (sub [1, 1, 1, 1, 1, 1, 1, 1, 1, 1, 1, 1, 0] (Try.f3.body.getD .skip)) (sub [1, 1, 1, 1, 1, 1, 1, 1, 1, 1, 1, 1, 1] (Try.f3.body.getD .skip)) := by kernel_rfl
theorem seq3_13 : (sub [1, 1, 1, 1, 1, 1, 1, 1, 1, 1, 1, 1, 1] (Try.f3.body.getD .skip)) = .seq (sub [1, 1, 1, 1, 1, 1, 1, 1, 1, 1, 1, 1, 1, 0] (Try.f3.body.getD .skip)) (sub [1, 1, 1, 1, 1, 1, 1, 1, 1, 1, 1, 1, 1, 1] (Try.f3.body.getD .skip)) := by kernel_rfl

theorem tail3 {Q : Exit → Act → World → Prop} {w0 W7 : World} {g g5 X H : Nat} {τ : Nat → Nat} {T T2 : Ad} {L : Nat → Nat} {E : Env} {D : Dyn} {c : Nat} {p : Int} {xs : Array Value} {cd : Code} (hM : Md w0 g g5 τ W7 X H T T2 L E D) (hP : Prem E D (c : Int) p) (hN : xs.size = 179)
    (h0 : xs.getD 0 undef = .slice T.oA E.n T.oc) (h2 : xs.getD 2 undef = .int .i64 (c : Nat)) (h3 : xs.getD 3 undef = .int .i32 p) (h5 : xs.getD 5 undef = .pointer (some ⟨g, 0, none⟩)) (h9 : xs.getD 9 undef = .pointer (some ⟨g5, 0, none⟩)) (h10 : xs.getD 10 undef = .pointer (some ⟨X, 0, none⟩)) (hc : (sub [1, 1, 1, 1, 1, 1, 1] (Try.f3.body.getD .skip)) = cd)
    (hEnd : ∀ (a : Act) (f : Nat → Value) (w' : World), a.defers = [] → (∀ j, j < 179 → a.tmps[j]? = some (f j)) → f 8 = .bool true → Below w0.heap.size w0 w' → Q .ret a w') : Code.wp Try.prog cd Q ⟨xs, []⟩ W7 := by
  subst hc
  obtain ⟨k0, i, hl⟩ := Last.of hM.inv.ho hP
  refine seq_at seq3_7 (t3_7 (a := ⟨xs, []⟩) (f := fun j => xs.getD j undef) hM hP ⟨h0, h2, h3, h5, h9, h10⟩ rfl (frame_f xs 179 hN) ?_)
  clear h0 h2 h3 h5 h9 h10 hN xs
  intro a f w' hD hV hs hI
  have hu := unplace_fields (E := E) (D := D) (mix := zmix) c p
  rw [hl.op] at hu
  generalize unplace E D zmix c p = D' at hI hu
  refine seq_at seq3_8 (t3_8 hM hI hs hD hV ?_)
  clear hD hV hs a f
  intro a f hD hV hs
  refine seq_at seq3_9 (t3_9 hM hI hs hD hV ?_)
  clear hD hV hs a f
  intro a f W hD hV hs hF
  refine seq_at seq3_10 (t3_10 hF hl hs hD hV ?_)
  clear hD hV hs a f
  intro a f q hD hV hs h11
  have hF1 := hF.draw q
  refine seq_at seq3_11 (t3_11 hF1 hl hs h11 hD hV ?_)
  clear hD hV hs a f h11
  intro a f hD hV hs h11 h12
  refine seq_at seq3_12 (t3_12 hF1 hu.1 hl hs h11 h12 hD hV ?_)
  clear hD hV hs a f h11 h12
  intro a f q2 hD hV hs h11 h12
  have hF2 := hF1.draw q2
  refine seq_at seq3_13 (t3_13 hF2 hu.2.2 hl hs h11 h12 hD hV ?_)
  clear hD hV hs a f h11 h12
  intro a f q3 hD hV hs
  exact t3_14 (hF2.draw q3) hs hD hV hEnd
end Go.Proofs.Qxb6616080a
