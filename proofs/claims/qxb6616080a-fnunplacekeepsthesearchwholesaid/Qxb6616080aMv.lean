/- ONE PLACE OF ONE FIELD WRITTEN, field by field. -/
import Derived.Test.Qxb6616080aG35
namespace Go.Proofs.Qxb6616080a
open Go.RowKit
set_option linter.unusedVariables false
set_option linter.unusedSimpArgs false

section
variable {τ : Nat → Nat} {w : World} {T : Ad} {E : Env} {D : Dyn}
theorem Tn.setNext (h : Tn τ w T E D) {j : Nat} (hj : j < E.nc) (x : Int) : Tn τ (w.setCell ⟨T.b 2, j, none⟩ (.int .i64 x)) T E { D with next := upd D.next j x } := by
  refine h.set (by omega) (by omega) (show j < lenF E 2 from hj) rfl (fun i' j' => ?_)
  by_cases e : i' = 2
  · subst e
    by_cases e2 : j' = j
    · subst e2; simp [datF, upd]
    · simp [datF, upd, e2]
  · rw [if_neg (fun h => e h.1)]
    unfold datF
    split <;> first | rfl | exact absurd rfl e
theorem Tn.setPlaced (h : Tn τ w T E D) {j : Nat} (hj : j < E.n) (x : Bool) : Tn τ (w.setCell ⟨T.b 4, j, none⟩ (.bool x)) T E { D with placed := upd D.placed j x } := by
  refine h.set (by omega) (by omega) (show j < lenF E 4 from hj) rfl (fun i' j' => ?_)
  by_cases e : i' = 4
  · subst e
    by_cases e2 : j' = j
    · subst e2; simp [datF, upd]
    · simp [datF, upd, e2]
  · rw [if_neg (fun h => e h.1)]
    unfold datF
    split <;> first | rfl | exact absurd rfl e
theorem Tn.setCurrent (h : Tn τ w T E D) {j : Nat} (hj : j < E.nv) (x : Int) : Tn τ (w.setCell ⟨T.b 5, j, none⟩ (.int .i32 x)) T E { D with current := upd D.current j x } := by
  refine h.set (by omega) (by omega) (show j < lenF E 5 from hj) rfl (fun i' j' => ?_)
  by_cases e : i' = 5
  · subst e
    by_cases e2 : j' = j
    · subst e2; simp [datF, upd]
    · simp [datF, upd, e2]
  · rw [if_neg (fun h => e h.1)]
    unfold datF
    split <;> first | rfl | exact absurd rfl e
theorem Tn.setAwaiting (h : Tn τ w T E D) {j : Nat} (hj : j < E.n) (x : Int) : Tn τ (w.setCell ⟨T.b 6, j, none⟩ (.int .i32 x)) T E { D with awaiting := upd D.awaiting j x } := by
  refine h.set (by omega) (by omega) (show j < lenF E 6 from hj) rfl (fun i' j' => ?_)
  by_cases e : i' = 6
  · subst e
    by_cases e2 : j' = j
    · subst e2; simp [datF, upd]
    · simp [datF, upd, e2]
  · rw [if_neg (fun h => e h.1)]
    unfold datF
    split <;> first | rfl | exact absurd rfl e
theorem Tn.setHolders (h : Tn τ w T E D) {j : Nat} (hj : j < E.nv) (x : Int) : Tn τ (w.setCell ⟨T.b 8, j, none⟩ (.int .i32 x)) T E { D with holders := upd D.holders j x } := by
  refine h.set (by omega) (by omega) (show j < lenF E 8 from hj) rfl (fun i' j' => ?_)
  by_cases e : i' = 8
  · subst e
    by_cases e2 : j' = j
    · subst e2; simp [datF, upd]
    · simp [datF, upd, e2]
  · rw [if_neg (fun h => e h.1)]
    unfold datF
    split <;> first | rfl | exact absurd rfl e
theorem Tn.setHolderSum (h : Tn τ w T E D) {j : Nat} (hj : j < E.nv) (x : Int) : Tn τ (w.setCell ⟨T.b 9, j, none⟩ (.int .i64 x)) T E { D with holderSum := upd D.holderSum j x } := by
  refine h.set (by omega) (by omega) (show j < lenF E 9 from hj) rfl (fun i' j' => ?_)
  by_cases e : i' = 9
  · subst e
    by_cases e2 : j' = j
    · subst e2; simp [datF, upd]
    · simp [datF, upd, e2]
  · rw [if_neg (fun h => e h.1)]
    unfold datF
    split <;> first | rfl | exact absurd rfl e
theorem Tn.setInitial (h : Tn τ w T E D) {j : Nat} (hj : j < E.nv) (x : Int) : Tn τ (w.setCell ⟨T.b 11, j, none⟩ (.int .i32 x)) T E { D with initial := upd D.initial j x } := by
  refine h.set (by omega) (by omega) (show j < lenF E 11 from hj) rfl (fun i' j' => ?_)
  by_cases e : i' = 11
  · subst e
    by_cases e2 : j' = j
    · subst e2; simp [datF, upd]
    · simp [datF, upd, e2]
  · rw [if_neg (fun h => e h.1)]
    unfold datF
    split <;> first | rfl | exact absurd rfl e
theorem Tn.setFirst (h : Tn τ w T E D) {j : Nat} (hj : j < E.nv) (x : Int) : Tn τ (w.setCell ⟨T.b 12, j, none⟩ (.int .i32 x)) T E { D with K := { D.K with first := upd D.K.first j x } } := by
  refine h.set (by omega) (by omega) (show j < lenF E 12 from hj) rfl (fun i' j' => ?_)
  by_cases e : i' = 12
  · subst e
    by_cases e2 : j' = j
    · subst e2; simp [datF, upd]
    · simp [datF, upd, e2]
  · rw [if_neg (fun h => e h.1)]
    unfold datF
    split <;> first | rfl | exact absurd rfl e
theorem Tn.setNx (h : Tn τ w T E D) {j : Nat} (hj : j < E.nc) (x : Int) : Tn τ (w.setCell ⟨T.b 13, j, none⟩ (.int .i32 x)) T E { D with K := { D.K with nx := upd D.K.nx j x } } := by
  refine h.set (by omega) (by omega) (show j < lenF E 13 from hj) rfl (fun i' j' => ?_)
  by_cases e : i' = 13
  · subst e
    by_cases e2 : j' = j
    · subst e2; simp [datF, upd]
    · simp [datF, upd, e2]
  · rw [if_neg (fun h => e h.1)]
    unfold datF
    split <;> first | rfl | exact absurd rfl e
theorem Tn.setPv (h : Tn τ w T E D) {j : Nat} (hj : j < E.nc) (x : Int) : Tn τ (w.setCell ⟨T.b 14, j, none⟩ (.int .i32 x)) T E { D with K := { D.K with pv := upd D.K.pv j x } } := by
  refine h.set (by omega) (by omega) (show j < lenF E 14 from hj) rfl (fun i' j' => ?_)
  by_cases e : i' = 14
  · subst e
    by_cases e2 : j' = j
    · subst e2; simp [datF, upd]
    · simp [datF, upd, e2]
  · rw [if_neg (fun h => e h.1)]
    unfold datF
    split <;> first | rfl | exact absurd rfl e
theorem Tn.setOf (h : Tn τ w T E D) {j : Nat} (hj : j < E.nc) (x : Int) : Tn τ (w.setCell ⟨T.b 15, j, none⟩ (.int .i32 x)) T E { D with K := { D.K with of := upd D.K.of j x } } := by
  refine h.set (by omega) (by omega) (show j < lenF E 15 from hj) rfl (fun i' j' => ?_)
  by_cases e : i' = 15
  · subst e
    by_cases e2 : j' = j
    · subst e2; simp [datF, upd]
    · simp [datF, upd, e2]
  · rw [if_neg (fun h => e h.1)]
    unfold datF
    split <;> first | rfl | exact absurd rfl e
end
end Go.Proofs.Qxb6616080a
