import Derived.Test.Qxb6616080aF7g
import Derived.Test.Qxb6616080aF7j
import Derived.Test.Qxb6616080aF7k
import Derived.Test.Qxb6616080aF7l
import Derived.Test.Qxb6616080aF7m
namespace Go.Proofs.Qxb6616080a
open Go.RowKit
set_option linter.unusedVariables false
set_option linter.unusedSimpArgs false
set_option maxRecDepth 100000

theorem seq_at {P : Program} {c x y : Code} {Q : Exit → Act → World → Prop} {a : Act} {w : World} (e : c = .seq x y) (h : x.wp P (Exit.then (y.wp P Q) Q) a w) : c.wp P Q a w := e ▸ wp_seq h
theorem Rd.mono {W : World} {B B' : Nat} {T : Ad} {E : Env} {D : Dyn} (h : Rd W B T E D) (hB : B ≤ B') : Rd W B' T E D :=
  { h with
    b1 := fun x => Nat.lt_of_lt_of_le (h.b1 x) hB
    b2 := fun x => Nat.lt_of_lt_of_le (h.b2 x) hB
    b4 := fun x => Nat.lt_of_lt_of_le (h.b4 x) hB
    b5 := fun x => Nat.lt_of_lt_of_le (h.b5 x) hB
    b6 := fun x => Nat.lt_of_lt_of_le (h.b6 x) hB
    b7 := fun x => Nat.lt_of_lt_of_le (h.b7 x) hB
    b8 := fun x => Nat.lt_of_lt_of_le (h.b8 x) hB
    b9 := fun x => Nat.lt_of_lt_of_le (h.b9 x) hB
    b10 := fun x => Nat.lt_of_lt_of_le (h.b10 x) hB
    b11 := fun x => Nat.lt_of_lt_of_le (h.b11 x) hB
    b12 := fun x => Nat.lt_of_lt_of_le (h.b12 x) hB
    b13 := fun x => Nat.lt_of_lt_of_le (h.b13 x) hB
    b14 := fun x => Nat.lt_of_lt_of_le (h.b14 x) hB
    b15 := fun x => Nat.lt_of_lt_of_le (h.b15 x) hB
    b16 := fun x => Nat.lt_of_lt_of_le (h.b16 x) hB
    cB := fun c hc x => Nat.lt_of_lt_of_le (h.cB c hc x) hB
    lB := fun c hc x => Nat.lt_of_lt_of_le (h.lB c hc x) hB
    oB := fun x => Nat.lt_of_lt_of_le (h.oB x) hB }

theorem eq0 : (sub [] (Try.f7.body.getD .skip)) = .seq (sub [0] (Try.f7.body.getD .skip)) (sub [1] (Try.f7.body.getD .skip)) := by kernel_rfl
theorem eq5 : (sub [1, 1, 1, 1, 1] (Try.f7.body.getD .skip)) = .seq (sub [1, 1, 1, 1, 1, 0] (Try.f7.body.getD .skip)) (sub [1, 1, 1, 1, 1, 1] (Try.f7.body.getD .skip)) := by kernel_rfl
theorem eq6 : (sub [1, 1, 1, 1, 1, 1] (Try.f7.body.getD .skip)) = .seq (sub [1, 1, 1, 1, 1, 1, 0] (Try.f7.body.getD .skip)) (sub [1, 1, 1, 1, 1, 1, 1] (Try.f7.body.getD .skip)) := by kernel_rfl
theorem eq7 : (sub [1, 1, 1, 1, 1, 1, 1] (Try.f7.body.getD .skip)) = .seq (sub [1, 1, 1, 1, 1, 1, 1, 0] (Try.f7.body.getD .skip)) (sub [1, 1, 1, 1, 1, 1, 1, 1] (Try.f7.body.getD .skip)) := by kernel_rfl
theorem eq8 : (sub [1, 1, 1, 1, 1, 1, 1, 1] (Try.f7.body.getD .skip)) = .seq (sub [1, 1, 1, 1, 1, 1, 1, 1, 0] (Try.f7.body.getD .skip)) (sub [1, 1, 1, 1, 1, 1, 1, 1, 1] (Try.f7.body.getD .skip)) := by kernel_rfl
theorem eq9 : (sub [1, 1, 1, 1, 1, 1, 1, 1, 1] (Try.f7.body.getD .skip)) = .seq (sub [1, 1, 1, 1, 1, 1, 1, 1, 1, 0] (Try.f7.body.getD .skip)) (sub [1, 1, 1, 1, 1, 1, 1, 1, 1, 1] (Try.f7.body.getD .skip)) := by kernel_rfl
theorem eq10 : (sub [1, 1, 1, 1, 1, 1, 1, 1, 1, 1] (Try.f7.body.getD .skip)) = .seq (sub [1, 1, 1, 1, 1, 1, 1, 1, 1, 1, 0] (Try.f7.body.getD .skip)) (sub [1, 1, 1, 1, 1, 1, 1, 1, 1, 1, 1] (Try.f7.body.getD .skip)) := by kernel_rfl
theorem eq11 : (sub [1, 1, 1, 1, 1, 1, 1, 1, 1, 1, 1] (Try.f7.body.getD .skip)) = .seq (sub [1, 1, 1, 1, 1, 1, 1, 1, 1, 1, 1, 0] (Try.f7.body.getD .skip)) (sub [1, 1, 1, 1, 1, 1, 1, 1, 1, 1, 1, 1] (Try.f7.body.getD .skip)) := by kernel_rfl
theorem eq12 : (sub [1, 1, 1, 1, 1, 1, 1, 1, 1, 1, 1, 1] (Try.f7.body.getD .skip)) = .seq (sub [1, 1, 1, 1, 1, 1, 1, 1, 1, 1, 1, 1, 0] (Try.f7.body.getD .skip)) (sub [1, 1, 1, 1, 1, 1, 1, 1, 1, 1, 1, 1, 1] (Try.f7.body.getD .skip)) := by kernel_rfl
theorem eq13 : (sub [1, 1, 1, 1, 1, 1, 1, 1, 1, 1, 1, 1, 1] (Try.f7.body.getD .skip)) = .seq (sub [1, 1, 1, 1, 1, 1, 1, 1, 1, 1, 1, 1, 1, 0] (Try.f7.body.getD .skip)) (sub [1, 1, 1, 1, 1, 1, 1, 1, 1, 1, 1, 1, 1, 1] (Try.f7.body.getD .skip)) := by kernel_rfl
theorem eq14 : (sub [1, 1, 1, 1, 1, 1, 1, 1, 1, 1, 1, 1, 1, 1] (Try.f7.body.getD .skip)) = .seq (sub [1, 1, 1, 1, 1, 1, 1, 1, 1, 1, 1, 1, 1, 1, 0] (Try.f7.body.getD .skip)) (sub [1, 1, 1, 1, 1, 1, 1, 1, 1, 1, 1, 1, 1, 1, 1] (Try.f7.body.getD .skip)) := by kernel_rfl
theorem eq15 : (sub [1, 1, 1, 1, 1, 1, 1, 1, 1, 1, 1, 1, 1, 1, 1] (Try.f7.body.getD .skip)) = .seq (sub [1, 1, 1, 1, 1, 1, 1, 1, 1, 1, 1, 1, 1, 1, 1, 0] (Try.f7.body.getD .skip)) (sub [1, 1, 1, 1, 1, 1, 1, 1, 1, 1, 1, 1, 1, 1, 1, 1] (Try.f7.body.getD .skip)) := by kernel_rfl
theorem eq16 : (sub [1, 1, 1, 1, 1, 1, 1, 1, 1, 1, 1, 1, 1, 1, 1, 1] (Try.f7.body.getD .skip)) = .seq (sub [1, 1, 1, 1, 1, 1, 1, 1, 1, 1, 1, 1, 1, 1, 1, 1, 0] (Try.f7.body.getD .skip)) (sub [1, 1, 1, 1, 1, 1, 1, 1, 1, 1, 1, 1, 1, 1, 1, 1, 1] (Try.f7.body.getD .skip)) := by kernel_rfl
theorem eq17 : (sub [1, 1, 1, 1, 1, 1, 1, 1, 1, 1, 1, 1, 1, 1, 1, 1, 1] (Try.f7.body.getD .skip)) = .seq (sub [1, 1, 1, 1, 1, 1, 1, 1, 1, 1, 1, 1, 1, 1, 1, 1, 1, 0] (Try.f7.body.getD .skip)) (sub [1, 1, 1, 1, 1, 1, 1, 1, 1, 1, 1, 1, 1, 1, 1, 1, 1, 1] (Try.f7.body.getD .skip)) := by kernel_rfl
theorem eq18 : (sub [1, 1, 1, 1, 1, 1, 1, 1, 1, 1, 1, 1, 1, 1, 1, 1, 1, 1] (Try.f7.body.getD .skip)) = .seq (sub [1, 1, 1, 1, 1, 1, 1, 1, 1, 1, 1, 1, 1, 1, 1, 1, 1, 1, 0] (Try.f7.body.getD .skip)) (sub [1, 1, 1, 1, 1, 1, 1, 1, 1, 1, 1, 1, 1, 1, 1, 1, 1, 1, 1] (Try.f7.body.getD .skip)) := by kernel_rfl
theorem eq19 : (sub [1, 1, 1, 1, 1, 1, 1, 1, 1, 1, 1, 1, 1, 1, 1, 1, 1, 1, 1] (Try.f7.body.getD .skip)) = .seq (sub [1, 1, 1, 1, 1, 1, 1, 1, 1, 1, 1, 1, 1, 1, 1, 1, 1, 1, 1, 0] (Try.f7.body.getD .skip)) (sub [1, 1, 1, 1, 1, 1, 1, 1, 1, 1, 1, 1, 1, 1, 1, 1, 1, 1, 1, 1] (Try.f7.body.getD .skip)) := by kernel_rfl
theorem eq20 : (sub [1, 1, 1, 1, 1, 1, 1, 1, 1, 1, 1, 1, 1, 1, 1, 1, 1, 1, 1, 1] (Try.f7.body.getD .skip)) = .seq (sub [1, 1, 1, 1, 1, 1, 1, 1, 1, 1, 1, 1, 1, 1, 1, 1, 1, 1, 1, 1, 0] (Try.f7.body.getD .skip)) (sub [1, 1, 1, 1, 1, 1, 1, 1, 1, 1, 1, 1, 1, 1, 1, 1, 1, 1, 1, 1, 1] (Try.f7.body.getD .skip)) := by kernel_rfl
theorem eq21 : (sub [1, 1, 1, 1, 1, 1, 1, 1, 1, 1, 1, 1, 1, 1, 1, 1, 1, 1, 1, 1, 1] (Try.f7.body.getD .skip)) = .seq (sub [1, 1, 1, 1, 1, 1, 1, 1, 1, 1, 1, 1, 1, 1, 1, 1, 1, 1, 1, 1, 1, 0] (Try.f7.body.getD .skip)) (sub [1, 1, 1, 1, 1, 1, 1, 1, 1, 1, 1, 1, 1, 1, 1, 1, 1, 1, 1, 1, 1, 1] (Try.f7.body.getD .skip)) := by kernel_rfl
theorem eq22 : (sub [1, 1, 1, 1, 1, 1, 1, 1, 1, 1, 1, 1, 1, 1, 1, 1, 1, 1, 1, 1, 1, 1] (Try.f7.body.getD .skip)) = .seq (sub [1, 1, 1, 1, 1, 1, 1, 1, 1, 1, 1, 1, 1, 1, 1, 1, 1, 1, 1, 1, 1, 1, 0] (Try.f7.body.getD .skip)) (sub [1, 1, 1, 1, 1, 1, 1, 1, 1, 1, 1, 1, 1, 1, 1, 1, 1, 1, 1, 1, 1, 1, 1] (Try.f7.body.getD .skip)) := by kernel_rfl
theorem eq23 : (sub [1, 1, 1, 1, 1, 1, 1, 1, 1, 1, 1, 1, 1, 1, 1, 1, 1, 1, 1, 1, 1, 1, 1] (Try.f7.body.getD .skip)) = .seq (sub [1, 1, 1, 1, 1, 1, 1, 1, 1, 1, 1, 1, 1, 1, 1, 1, 1, 1, 1, 1, 1, 1, 1, 0] (Try.f7.body.getD .skip)) (sub [1, 1, 1, 1, 1, 1, 1, 1, 1, 1, 1, 1, 1, 1, 1, 1, 1, 1, 1, 1, 1, 1, 1, 1] (Try.f7.body.getD .skip)) := by kernel_rfl
theorem eq24 : (sub [1, 1, 1, 1, 1, 1, 1, 1, 1, 1, 1, 1, 1, 1, 1, 1, 1, 1, 1, 1, 1, 1, 1, 1] (Try.f7.body.getD .skip)) = .seq (sub [1, 1, 1, 1, 1, 1, 1, 1, 1, 1, 1, 1, 1, 1, 1, 1, 1, 1, 1, 1, 1, 1, 1, 1, 0] (Try.f7.body.getD .skip)) (sub [1, 1, 1, 1, 1, 1, 1, 1, 1, 1, 1, 1, 1, 1, 1, 1, 1, 1, 1, 1, 1, 1, 1, 1, 1] (Try.f7.body.getD .skip)) := by kernel_rfl
theorem eq25 : (sub [1, 1, 1, 1, 1, 1, 1, 1, 1, 1, 1, 1, 1, 1, 1, 1, 1, 1, 1, 1, 1, 1, 1, 1, 1] (Try.f7.body.getD .skip)) = .seq (sub [1, 1, 1, 1, 1, 1, 1, 1, 1, 1, 1, 1, 1, 1, 1, 1, 1, 1, 1, 1, 1, 1, 1, 1, 1, 0] (Try.f7.body.getD .skip)) (sub [1, 1, 1, 1, 1, 1, 1, 1, 1, 1, 1, 1, 1, 1, 1, 1, 1, 1, 1, 1, 1, 1, 1, 1, 1, 1] (Try.f7.body.getD .skip)) := by kernel_rfl
theorem eq26 : (sub [1, 1, 1, 1, 1, 1, 1, 1, 1, 1, 1, 1, 1, 1, 1, 1, 1, 1, 1, 1, 1, 1, 1, 1, 1, 1] (Try.f7.body.getD .skip)) = .seq (sub [1, 1, 1, 1, 1, 1, 1, 1, 1, 1, 1, 1, 1, 1, 1, 1, 1, 1, 1, 1, 1, 1, 1, 1, 1, 1, 0] (Try.f7.body.getD .skip)) (sub [1, 1, 1, 1, 1, 1, 1, 1, 1, 1, 1, 1, 1, 1, 1, 1, 1, 1, 1, 1, 1, 1, 1, 1, 1, 1, 1] (Try.f7.body.getD .skip)) := by kernel_rfl
theorem eq27 : (sub [1, 1, 1, 1, 1, 1, 1, 1, 1, 1, 1, 1, 1, 1, 1, 1, 1, 1, 1, 1, 1, 1, 1, 1, 1, 1, 1] (Try.f7.body.getD .skip)) = .seq (sub [1, 1, 1, 1, 1, 1, 1, 1, 1, 1, 1, 1, 1, 1, 1, 1, 1, 1, 1, 1, 1, 1, 1, 1, 1, 1, 1, 0] (Try.f7.body.getD .skip)) (sub [1, 1, 1, 1, 1, 1, 1, 1, 1, 1, 1, 1, 1, 1, 1, 1, 1, 1, 1, 1, 1, 1, 1, 1, 1, 1, 1, 1] (Try.f7.body.getD .skip)) := by kernel_rfl
theorem eq28 : (sub [1, 1, 1, 1, 1, 1, 1, 1, 1, 1, 1, 1, 1, 1, 1, 1, 1, 1, 1, 1, 1, 1, 1, 1, 1, 1, 1, 1] (Try.f7.body.getD .skip)) = .seq (sub [1, 1, 1, 1, 1, 1, 1, 1, 1, 1, 1, 1, 1, 1, 1, 1, 1, 1, 1, 1, 1, 1, 1, 1, 1, 1, 1, 1, 0] (Try.f7.body.getD .skip)) (sub [1, 1, 1, 1, 1, 1, 1, 1, 1, 1, 1, 1, 1, 1, 1, 1, 1, 1, 1, 1, 1, 1, 1, 1, 1, 1, 1, 1, 1] (Try.f7.body.getD .skip)) := by kernel_rfl
theorem eq29 : (sub [1, 1, 1, 1, 1, 1, 1, 1, 1, 1, 1, 1, 1, 1, 1, 1, 1, 1, 1, 1, 1, 1, 1, 1, 1, 1, 1, 1, 1] (Try.f7.body.getD .skip)) = .seq (sub [1, 1, 1, 1, 1, 1, 1, 1, 1, 1, 1, 1, 1, 1, 1, 1, 1, 1, 1, 1, 1, 1, 1, 1, 1, 1, 1, 1, 1, 0] (Try.f7.body.getD .skip)) (sub [1, 1, 1, 1, 1, 1, 1, 1, 1, 1, 1, 1, 1, 1, 1, 1, 1, 1, 1, 1, 1, 1, 1, 1, 1, 1, 1, 1, 1, 1] (Try.f7.body.getD .skip)) := by kernel_rfl
theorem eq30 : (sub [1, 1, 1, 1, 1, 1, 1, 1, 1, 1, 1, 1, 1, 1, 1, 1, 1, 1, 1, 1, 1, 1, 1, 1, 1, 1, 1, 1, 1, 1] (Try.f7.body.getD .skip)) = .seq (sub [1, 1, 1, 1, 1, 1, 1, 1, 1, 1, 1, 1, 1, 1, 1, 1, 1, 1, 1, 1, 1, 1, 1, 1, 1, 1, 1, 1, 1, 1, 0] (Try.f7.body.getD .skip)) (sub [1, 1, 1, 1, 1, 1, 1, 1, 1, 1, 1, 1, 1, 1, 1, 1, 1, 1, 1, 1, 1, 1, 1, 1, 1, 1, 1, 1, 1, 1, 1] (Try.f7.body.getD .skip)) := by kernel_rfl
theorem eq31 : (sub [1, 1, 1, 1, 1, 1, 1, 1, 1, 1, 1, 1, 1, 1, 1, 1, 1, 1, 1, 1, 1, 1, 1, 1, 1, 1, 1, 1, 1, 1, 1] (Try.f7.body.getD .skip)) = .seq (sub [1, 1, 1, 1, 1, 1, 1, 1, 1, 1, 1, 1, 1, 1, 1, 1, 1, 1, 1, 1, 1, 1, 1, 1, 1, 1, 1, 1, 1, 1, 1, 0] (Try.f7.body.getD .skip)) (sub [1, 1, 1, 1, 1, 1, 1, 1, 1, 1, 1, 1, 1, 1, 1, 1, 1, 1, 1, 1, 1, 1, 1, 1, 1, 1, 1, 1, 1, 1, 1, 1] (Try.f7.body.getD .skip)) := by kernel_rfl
theorem eq32 : (sub [1, 1, 1, 1, 1, 1, 1, 1, 1, 1, 1, 1, 1, 1, 1, 1, 1, 1, 1, 1, 1, 1, 1, 1, 1, 1, 1, 1, 1, 1, 1, 1] (Try.f7.body.getD .skip)) = .seq (sub [1, 1, 1, 1, 1, 1, 1, 1, 1, 1, 1, 1, 1, 1, 1, 1, 1, 1, 1, 1, 1, 1, 1, 1, 1, 1, 1, 1, 1, 1, 1, 1, 0] (Try.f7.body.getD .skip)) (sub [1, 1, 1, 1, 1, 1, 1, 1, 1, 1, 1, 1, 1, 1, 1, 1, 1, 1, 1, 1, 1, 1, 1, 1, 1, 1, 1, 1, 1, 1, 1, 1, 1] (Try.f7.body.getD .skip)) := by kernel_rfl
theorem eq33 : (sub [1, 1, 1, 1, 1, 1, 1, 1, 1, 1, 1, 1, 1, 1, 1, 1, 1, 1, 1, 1, 1, 1, 1, 1, 1, 1, 1, 1, 1, 1, 1, 1, 1] (Try.f7.body.getD .skip)) = .seq (sub [1, 1, 1, 1, 1, 1, 1, 1, 1, 1, 1, 1, 1, 1, 1, 1, 1, 1, 1, 1, 1, 1, 1, 1, 1, 1, 1, 1, 1, 1, 1, 1, 1, 0] (Try.f7.body.getD .skip)) (sub [1, 1, 1, 1, 1, 1, 1, 1, 1, 1, 1, 1, 1, 1, 1, 1, 1, 1, 1, 1, 1, 1, 1, 1, 1, 1, 1, 1, 1, 1, 1, 1, 1, 1] (Try.f7.body.getD .skip)) := by kernel_rfl
theorem eq34 : (sub [1, 1, 1, 1, 1, 1, 1, 1, 1, 1, 1, 1, 1, 1, 1, 1, 1, 1, 1, 1, 1, 1, 1, 1, 1, 1, 1, 1, 1, 1, 1, 1, 1, 1] (Try.f7.body.getD .skip)) = .seq (sub [1, 1, 1, 1, 1, 1, 1, 1, 1, 1, 1, 1, 1, 1, 1, 1, 1, 1, 1, 1, 1, 1, 1, 1, 1, 1, 1, 1, 1, 1, 1, 1, 1, 1, 0] (Try.f7.body.getD .skip)) (sub [1, 1, 1, 1, 1, 1, 1, 1, 1, 1, 1, 1, 1, 1, 1, 1, 1, 1, 1, 1, 1, 1, 1, 1, 1, 1, 1, 1, 1, 1, 1, 1, 1, 1, 1] (Try.f7.body.getD .skip)) := by kernel_rfl

set_option maxHeartbeats 4000000 in
theorem rest5 {Q : Exit → Act → World → Prop} {W : World} {T : Ad} {E : Env} {D : Dyn} {B S : Nat} {a : Act} {f : Nat → Value} (hR : Rd W B T E D) (hS : Sb W S T E D) (hSB : S < B) (hB : B ≤ W.heap.size) (hb : Bs T E S f)
    (hD : a.defers = []) (hV : ∀ j, j < 864 → a.tmps[j]? = some (f j))
    (hRet : ∀ (a : Act) (f : Nat → Value) (w : World), a.defers = [] → (∀ j, j < 864 → a.tmps[j]? = some (f j)) → f 4 = .bool false → Below B W w → ¬ Holds E D zmix → Q .ret a w)
    (hEnd : ∀ (a : Act) (f : Nat → Value) (w' : World) (r : Bool), a.defers = [] → (∀ j, j < 864 → a.tmps[j]? = some (f j)) → f 4 = .bool r → Below B W w' → (r = true ↔ Holds E D zmix) → Q .ret a w') :
    Code.wp Try.prog (sub [1, 1, 1, 1, 1] (Try.f7.body.getD .skip)) Q a W := by
  have m1 := hR.m_n
  have m2 := hR.m_v
  refine seq_at eq5 (st5 hR hb hD hV ?_ (fun a f h1 h2 h3 h4 => hRet a f W h1 h2 h3 (Below.refl _ _) (fun h => h4 h.vs)))
  clear hD hV hb a f
  intro a f hD hV hb hvs
  refine seq_at eq6 (st6 m1 hB hb hD hV ?_)
  clear hD hV hb a f
  intro a f w g1 hD hV hb h9 hW hB ho
  refine seq_at eq7 (st7 m1 hB hb h9 ho hD hV ?_)
  clear hD hV hb h9 ho a f
  intro a f w' g2 hD hV hb h9 h10 hne hW' hB ho hp
  replace hW := hW.trans hW'
  clear hW'
  refine seq_at eq8 (st8 m1 hB hb h9 h10 hne ho hp hD hV ?_)
  clear hD hV hb h9 h10 ho hp a f
  intro a f w'' hD hV hb h9 h10 hW' hB ho hp
  replace hW := hW.trans hW'
  clear hW'
  refine seq_at eq9 (st9 hb h9 h10 hD hV ?_)
  clear hD hV hb h9 h10 a f
  intro a f hD hV hb h9 h10 h12
  refine seq_at eq10 (st10 (mix := zmix) hR hS hSB hW hB hb h9 h10 h12 hne ho hp hD hV ?_ (fun a f w h1 h2 h3 h4 h5 => hRet a f w h1 h2 h3 h4 h5))
  clear hD hV hb h9 h10 h12 ho hp hW hB a f
  intro a f w3 cof plc hD hV hb h9 h10 h12 hW hB ho hp hcp
  refine seq_at eq11 (st11 (mix := zmix) hR hS hSB hW hB hb h9 h10 h12 hD hV ?_ (fun a f w h1 h2 h3 h4 h5 => hRet a f w h1 h2 h3 h4 h5))
  clear hD hV hb h9 h10 h12 a f
  intro a f hD hV hb h9 h10 htp
  refine seq_at eq12 (st12 (mix := zmix) hR hS hSB hW hB hb h9 h10 ho hp hcp hD hV ?_ (fun a f w h1 h2 h3 h4 h5 => hRet a f w h1 h2 h3 h4 h5))
  clear hD hV hb h9 h10 ho hp hW hB a f
  intro a f w4 hD hV hb h9 hW hB ho hpl
  refine seq_at eq13 (st13 hR hS hSB hW hB hb h9 ho hD hV ?_)
  clear hD hV hb h9 ho hW hB a f
  intro a f w5 g3 hD hV hb h9 h18 l13 hW hB ho ho3
  refine seq_at eq14 (st14 hR hS hSB hW hB hb h9 h18 ho ho3 hD hV ?_)
  clear hD hV hb h9 h18 ho ho3 hW hB a f
  intro a f w6 g4 hD hV hb h9 h18 h19 l34 hW hB ho ho3 ho4
  refine seq_at eq15 (st15 hR hS hSB hW hB hb h9 h18 h19 ho ho3 ho4 hD hV ?_)
  clear hD hV hb h9 h18 h19 ho ho3 ho4 hW hB a f
  intro a f w7 g5 hD hV hb h9 h18 h19 h20 l45 hW hB ho ho3 ho4 ho5
  refine seq_at eq16 (st16 (mix := zmix) hR hS hSB hW hB hb h9 h18 h19 h20 l13 l34 l45 ho ho3 ho4 ho5 hcp hvs hD hV ?_ (fun a f w h1 h2 h3 h4 h5 => hRet a f w h1 h2 h3 h4 h5))
  clear hD hV hb h9 h18 h19 h20 ho ho3 ho4 ho5 hW hB a f
  intro a f w8 aw ad ini hD hV hb h18 h19 h20 hW hB ho3 ho4 ho5 hg
  refine seq_at eq17 (st17 (mix := zmix) hR hS hSB hW hB hb h18 h19 h20 ho3 ho4 ho5 hg hD hV ?_ (fun a f w h1 h2 h3 h4 h5 => hRet a f w h1 h2 h3 h4 h5))
  clear hD hV hb h18 h19 h20 ho3 ho4 ho5 hW hB a f
  intro a f w9 hD hV hb h20 hW hB ho5 hawad
  refine seq_at eq18 (st18 (mix := zmix) hR hS hSB hW hB hb h20 ho5 hg hD hV ?_ (fun a f w h1 h2 h3 h4 h5 => hRet a f w h1 h2 h3 h4 h5))
  clear hD hV hb h20 ho5 hW hB a f
  intro a f w10 hD hV hb hW hB hini
  refine seq_at eq19 (st19 hR hS hSB hW hB hb hD hV ?_)
  clear hD hV hb hW hB a f
  intro a f w11 g6 hD hV hb h25 hW hB ho6
  refine seq_at eq20 (st20 hR hS hSB hW hB hb h25 ho6 hD hV ?_)
  clear hD hV hb h25 ho6 hW hB a f
  intro a f w12 g7 hD hV hb h25 h26 l67 hW hB ho6 ho7
  refine seq_at eq21 (st21 hR hS hSB hW hB hb h25 h26 ho6 ho7 hD hV ?_)
  clear hD hV hb h25 h26 ho6 ho7 hW hB a f
  intro a f w13 g8 hD hV hb h25 h26 h27 l78 hW hB ho6 ho7 ho8
  refine seq_at eq22 (st22 hR hS hSB hW hB hb h25 h26 h27 l67 l78 ho6 ho7 ho8 hD hV ?_)
  clear hD hV hb h25 h26 h27 ho6 ho7 ho8 hW hB a f
  intro a f w14 hD hV hb h25 h26 h27 hW hB ho6 ho7 ho8
  have hchr : ∀ c, c < E.nc → ∀ k, k < E.cl c → 0 ≤ E.ch c k ∧ E.ch c k < E.n := fun c hc k hk => (hcp.chr hc hk).1
  refine seq_at eq23 (st23 (mix := zmix) hR hS hSB hW hB hb h25 h26 h27 l67 l78 ho6 ho7 ho8 hchr hcp.nx hvs hD hV ?_ (fun a f w h1 h2 h3 h4 h5 => hRet a f w h1 h2 h3 h4 h5))
  clear hD hV hb h25 h26 h27 ho6 ho7 ho8 hW hB a f
  intro a f w15 hf hs hD hV hb h25 h26 hW hB ho6 ho7 e1 e2 hlst
  refine seq_at eq24 (st24 (mix := zmix) hR hS hSB hW hB hb h25 h26 ho6 ho7 e1 e2 hD hV ?_ (fun a f w h1 h2 h3 h4 h5 => hRet a f w h1 h2 h3 h4 h5))
  clear hD hV hb h25 h26 ho6 ho7 hW hB a f
  intro a f w16 hD hV hb hW hB hhs
  refine seq_at eq25 (st25 (mix := zmix) hR hS hSB hW hB hb hD hV ?_ (fun a f w h1 h2 h3 h4 h5 => hRet a f w h1 h2 h3 h4 h5))
  clear hD hV hb a f
  intro a f hD hV hb hcu
  refine seq_at eq26 (st26 hR hS hSB hW hB hb hD hV ?_)
  clear hD hV hb hW hB a f
  intro a f w17 g9 hD hV hb h38 hW hB ho9
  refine seq_at eq27 (st27 (mix := zmix) hR hS hSB hW hB hb h38 ho9 hchr hcp.nx hD hV ?_ (fun a f w h1 h2 h3 h4 h5 => hRet a f w h1 h2 h3 h4 h5))
  clear hD hV hb h38 ho9 hW hB a f
  intro a f w18 hD hV hb h38 hW hB ho9 huo
  refine seq_at eq28 (st28 hR hS hSB hW hB hb h38 ho9 hD hV ?_)
  clear hD hV hb h38 ho9 hW hB a f
  intro a f w19 g10 hD hV hb h38 h42 l910 hW hB ho9 ho10
  refine seq_at eq29 (st29 (mix := zmix) hR hS hSB hW hB hb h38 h42 l910 ho9 ho10 hD hV ?_ (fun a f w h1 h2 h3 h4 h5 => hRet a f w h1 h2 h3 h4 h5))
  clear hD hV hb h38 h42 ho9 ho10 hW hB a f
  intro a f w20 L lf hD hV hb h38 h42 hW hB ho9 ho10 hl
  refine seq_at eq30 (st30 (mix := zmix) (v9 := fun _ => undef) hR hS hSB hW hB hb h38 h42 ho10 hl hD hV ?_ (fun a f w h1 h2 h3 h4 h5 => hRet a f w h1 h2 h3 h4 h5))
  clear hD hV hb h38 h42 ho10 a f
  intro a f hD hV hb h38 hul
  refine seq_at eq31 (st31 hR hS hSB hW hB hb h38 hD hV ?_)
  clear hD hV hb h38 a f
  intro a f hD hV hb h38 h47
  refine seq_at eq32 (st32 (mix := zmix) hR hS hSB hW hB hb h38 h47 hD hV ?_ (fun a f w h1 h2 h3 h4 h5 => hRet a f w h1 h2 h3 h4 h5))
  clear hD hV hb h38 h47 a f
  intro a f hD hV hb h38 h47 hnl hn0
  refine seq_at eq33 (st33 (mix := zmix) hR hS hSB hW hB hb h38 h47 ho9 hnl hD hV ?_ (fun a f w h1 h2 h3 h4 h5 => hRet a f w h1 h2 h3 h4 h5))
  clear hD hV hb h38 h47 a f
  intro a f hD hV hb h47 hb0
  refine seq_at eq34 (st34 (mix := zmix) hR hS hSB hW hB hb h47 hnl hD hV ?_ (fun a f w h1 h2 h3 h4 h5 => hRet a f w h1 h2 h3 h4 h5))
  clear hD hV hb h47 a f
  intro a f hD hV hb hlev
  refine st35 hR hS hSB hW hB hb (fun v hv => ?_) hD hV (fun a f w' r h1 h2 h3 h4 h5 => hEnd a f w' r h1 h2 h3 h4 ?_)
  · by_cases h : D.current v = -1
    · omega
    · have := (hcu v hv h).1
      omega
  · rw [h5]
    refine ⟨fun hh => ?_, fun h => h.ha⟩
    exact ⟨hvs, hcp.nx, hchr, fun c k c' k' a1 a2 a3 a4 a5 => by
        have h1 := (hcp.chr a1 a2).2
        have h2 := (hcp.chr a3 a4).2
        rw [a5] at h1
        omega, htp, hpl, hg.sr, fun i hi => by rw [(hawad i hi).1]; exact hg.aw_ i hi, fun i hi => by rw [(hawad i hi).2]; exact hg.ad_ i hi, fun v hv => by rw [hini v hv]; exact hg.ini_ v hv,
      fun c hc k hk => hlst c k hc hk (.inl hc), fun v hv => by rw [(hhs v hv).1]; exact e1 v hv, fun v hv => by rw [(hhs v hv).2]; exact e2 v hv, hcu, huo, hul,
      ⟨hnl, levOk_of _ _ _ _ (fun _ => ⟨hn0, hb0⟩) (fun i hi => by have := hlev i hi; unfold LevAt at this; simpa using this)⟩, hh⟩

/-- ████ 'searchHolds' DECIDES 'Holds' ████ -/
theorem f7_to {T : Ad} {E : Env} {D : Dyn} {w : World} (hR : Rd w w.heap.size T E D) :
    Calls Try.prog 7 #[.slice T.oA E.n T.oc, .agg (sval T E D)] w fun e w' => ∃ r : Bool, e = .returned (.bool r) ∧ Below w.heap.size w w' ∧ (r = true ↔ Holds E D zmix) := by
  refine enter_f Try.func7 (c := sub [] (Try.f7.body.getD .skip)) rfl Try.ntmps7 (by simp) fun a hD hV => ?_
  have hbel : Below w.heap.size w (w.alloc (.cells (sval T E D) 30)) := (Below.refl _ _).alloc (Nat.le_refl _) _
  refine seq_at eq0 (st0 (T := T) (E := E) (D := D) (by rfl) (by rfl) hD hV ?_)
  clear hD hV a
  intro a f hD hV h0 h3
  have hS : Sb (w.alloc (.cells (sval T E D) 30)) w.heap.size T E D := fun i hi => by
    rw [World.cell?_alloc_new]
    have : i < (sval T E D).size := hi
    simp [this]
  refine st1 hS h0 h3 hD hV ?_
  clear hD hV h0 h3 a f
  intro a f hD hV hb
  refine rest5 (B := w.heap.size + 1) ((hR.below hbel).mono (by omega)) hS (by omega) (by simp) hb hD hV ?_ ?_
  · intro a f w' hD hV h4 hB hn
    refine ret_f (N := 864) (s := 4) rfl hD hV (by omega) ⟨false, by rw [h4], hbel.trans (hB.mono (by omega)), ⟨fun h => (by cases h), fun h => absurd h hn⟩⟩
  · intro a f w' r hD hV h4 hB hn
    refine ret_f (N := 864) (s := 4) rfl hD hV (by omega) ⟨r, by rw [h4], hbel.trans (hB.mono (by omega)), hn⟩
end Go.Proofs.Qxb6616080a
