import Derived.Test.Qxb6616080aMv
namespace Go.Proofs.Qxb6616080a
open Go.RowKit
set_option linter.unusedVariables false
set_option linter.unusedSimpArgs false
set_option maxRecDepth 100000

/-- The lists on their way: the rows, the frame, the struct's four cells. -/
structure Lk (τ : Nat → Nat) (w0 : World) (X : Nat) (T : Ad) (E : Env) (D : Dyn) (w : World) (K : Links) : Prop where
  tn : Tn τ w T E { D with K := K }
  fx : Fx (fun t => 12 ≤ t ∧ t ≤ 15) τ w0 w
  x21 : w.cell? ⟨X, 21, none⟩ = some (.slice (T.A 12) E.nv (T.cap 12))
  x22 : w.cell? ⟨X, 22, none⟩ = some (.slice (T.A 13) E.nc (T.cap 13))
  x23 : w.cell? ⟨X, 23, none⟩ = some (.slice (T.A 14) E.nc (T.cap 14))
  x24 : w.cell? ⟨X, 24, none⟩ = some (.slice (T.A 15) E.nc (T.cap 15))
section
variable {τ : Nat → Nat} {w0 w : World} {X : Nat} {T : Ad} {E : Env} {D : Dyn} {K : Links}
theorem Lk.setFirst (h : Lk τ w0 X T E D w K) (hτ : τ X = 50) {j : Nat} (hj : j < E.nv) (x : Int) : Lk τ w0 X T E D (w.setCell ⟨T.b 12, j, none⟩ (.int .i32 x)) { K with first := upd K.first j x } := by
  have ht := (h.tn.row 12 (show 0 < lenF E 12 from Nat.zero_lt_of_lt hj)).2.1
  have hne : T.b 12 ≠ X := fun e => by rw [e] at ht; omega
  exact ⟨h.tn.setFirst hj x, h.fx.setCell (by show 12 ≤ τ (T.b 12) ∧ τ (T.b 12) ≤ 15; omega) _, (cell_far _ _ _ _ hne).trans h.x21, (cell_far _ _ _ _ hne).trans h.x22, (cell_far _ _ _ _ hne).trans h.x23, (cell_far _ _ _ _ hne).trans h.x24⟩
theorem Lk.c12 (h : Lk τ w0 X T E D w K) {j : Nat} (hj : j < E.nv) {x : Int} (hx : K.first j = x) : w.cell? ⟨T.b 12, j, none⟩ = some (.int .i32 x) := hx ▸ (h.tn.row 12 (show 0 < lenF E 12 from Nat.zero_lt_of_lt hj)).2.2.cell (show j < lenF E 12 from hj)
theorem Lk.f12 (h : Lk τ w0 X T E D w K) (hj : 0 < E.nv) (j : Nat) : w.frozen? ⟨T.b 12, j, none⟩ = false := (h.tn.row 12 (show 0 < lenF E 12 from hj)).2.2.frozen j
theorem Lk.a12 (h : Lk τ w0 X T E D w K) (hj : 0 < E.nv) : T.A 12 = some ⟨T.b 12, 0, none⟩ := (h.tn.row 12 (show 0 < lenF E 12 from hj)).1
theorem Lk.setNx (h : Lk τ w0 X T E D w K) (hτ : τ X = 50) {j : Nat} (hj : j < E.nc) (x : Int) : Lk τ w0 X T E D (w.setCell ⟨T.b 13, j, none⟩ (.int .i32 x)) { K with nx := upd K.nx j x } := by
  have ht := (h.tn.row 13 (show 0 < lenF E 13 from Nat.zero_lt_of_lt hj)).2.1
  have hne : T.b 13 ≠ X := fun e => by rw [e] at ht; omega
  exact ⟨h.tn.setNx hj x, h.fx.setCell (by show 12 ≤ τ (T.b 13) ∧ τ (T.b 13) ≤ 15; omega) _, (cell_far _ _ _ _ hne).trans h.x21, (cell_far _ _ _ _ hne).trans h.x22, (cell_far _ _ _ _ hne).trans h.x23, (cell_far _ _ _ _ hne).trans h.x24⟩
theorem Lk.c13 (h : Lk τ w0 X T E D w K) {j : Nat} (hj : j < E.nc) {x : Int} (hx : K.nx j = x) : w.cell? ⟨T.b 13, j, none⟩ = some (.int .i32 x) := hx ▸ (h.tn.row 13 (show 0 < lenF E 13 from Nat.zero_lt_of_lt hj)).2.2.cell (show j < lenF E 13 from hj)
theorem Lk.f13 (h : Lk τ w0 X T E D w K) (hj : 0 < E.nc) (j : Nat) : w.frozen? ⟨T.b 13, j, none⟩ = false := (h.tn.row 13 (show 0 < lenF E 13 from hj)).2.2.frozen j
theorem Lk.a13 (h : Lk τ w0 X T E D w K) (hj : 0 < E.nc) : T.A 13 = some ⟨T.b 13, 0, none⟩ := (h.tn.row 13 (show 0 < lenF E 13 from hj)).1
theorem Lk.setPv (h : Lk τ w0 X T E D w K) (hτ : τ X = 50) {j : Nat} (hj : j < E.nc) (x : Int) : Lk τ w0 X T E D (w.setCell ⟨T.b 14, j, none⟩ (.int .i32 x)) { K with pv := upd K.pv j x } := by
  have ht := (h.tn.row 14 (show 0 < lenF E 14 from Nat.zero_lt_of_lt hj)).2.1
  have hne : T.b 14 ≠ X := fun e => by rw [e] at ht; omega
  exact ⟨h.tn.setPv hj x, h.fx.setCell (by show 12 ≤ τ (T.b 14) ∧ τ (T.b 14) ≤ 15; omega) _, (cell_far _ _ _ _ hne).trans h.x21, (cell_far _ _ _ _ hne).trans h.x22, (cell_far _ _ _ _ hne).trans h.x23, (cell_far _ _ _ _ hne).trans h.x24⟩
theorem Lk.c14 (h : Lk τ w0 X T E D w K) {j : Nat} (hj : j < E.nc) {x : Int} (hx : K.pv j = x) : w.cell? ⟨T.b 14, j, none⟩ = some (.int .i32 x) := hx ▸ (h.tn.row 14 (show 0 < lenF E 14 from Nat.zero_lt_of_lt hj)).2.2.cell (show j < lenF E 14 from hj)
theorem Lk.f14 (h : Lk τ w0 X T E D w K) (hj : 0 < E.nc) (j : Nat) : w.frozen? ⟨T.b 14, j, none⟩ = false := (h.tn.row 14 (show 0 < lenF E 14 from hj)).2.2.frozen j
theorem Lk.a14 (h : Lk τ w0 X T E D w K) (hj : 0 < E.nc) : T.A 14 = some ⟨T.b 14, 0, none⟩ := (h.tn.row 14 (show 0 < lenF E 14 from hj)).1
theorem Lk.setOf (h : Lk τ w0 X T E D w K) (hτ : τ X = 50) {j : Nat} (hj : j < E.nc) (x : Int) : Lk τ w0 X T E D (w.setCell ⟨T.b 15, j, none⟩ (.int .i32 x)) { K with of := upd K.of j x } := by
  have ht := (h.tn.row 15 (show 0 < lenF E 15 from Nat.zero_lt_of_lt hj)).2.1
  have hne : T.b 15 ≠ X := fun e => by rw [e] at ht; omega
  exact ⟨h.tn.setOf hj x, h.fx.setCell (by show 12 ≤ τ (T.b 15) ∧ τ (T.b 15) ≤ 15; omega) _, (cell_far _ _ _ _ hne).trans h.x21, (cell_far _ _ _ _ hne).trans h.x22, (cell_far _ _ _ _ hne).trans h.x23, (cell_far _ _ _ _ hne).trans h.x24⟩
theorem Lk.c15 (h : Lk τ w0 X T E D w K) {j : Nat} (hj : j < E.nc) {x : Int} (hx : K.of j = x) : w.cell? ⟨T.b 15, j, none⟩ = some (.int .i32 x) := hx ▸ (h.tn.row 15 (show 0 < lenF E 15 from Nat.zero_lt_of_lt hj)).2.2.cell (show j < lenF E 15 from hj)
theorem Lk.f15 (h : Lk τ w0 X T E D w K) (hj : 0 < E.nc) (j : Nat) : w.frozen? ⟨T.b 15, j, none⟩ = false := (h.tn.row 15 (show 0 < lenF E 15 from hj)).2.2.frozen j
theorem Lk.a15 (h : Lk τ w0 X T E D w K) (hj : 0 < E.nc) : T.A 15 = some ⟨T.b 15, 0, none⟩ := (h.tn.row 15 (show 0 < lenF E 15 from hj)).1
theorem Lk.drewN (h : Lk τ w0 X T E D w K) (n : Nat) : Lk τ w0 X T E D (w.drewN n) K := ⟨h.tn.drewN n, h.fx.drewN n, h.x21, h.x22, h.x23, h.x24⟩
theorem Lk.drew (h : Lk τ w0 X T E D w K) : Lk τ w0 X T E D w.drew K := ⟨h.tn.drew, h.fx.drew, h.x21, h.x22, h.x23, h.x24⟩
end
end Go.Proofs.Qxb6616080a
