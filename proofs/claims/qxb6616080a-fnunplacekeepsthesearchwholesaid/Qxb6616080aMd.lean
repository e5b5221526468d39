/- THE STATE AT THE LAWS' MIDDLE (the copy taken, the search made) AND AT THEIR END. -/
import Derived.Test.Qxb6616080aSt
namespace Go.Proofs.Qxb6616080a
open Go.RowKit
set_option linter.unusedVariables false
set_option linter.unusedSimpArgs false
set_option maxRecDepth 100000

structure Md (w0 : World) (g g5 : Nat) (τ : Nat → Nat) (W7 : World) (X H : Nat) (T T2 : Ad) (L : Nat → Nat) (E : Env) (D : Dyn) : Prop where
  inp : In w0 T L E D
  len : LenOk L E.n
  es : Es E
  hb : Below w0.heap.size w0 W7
  inv : Inv τ W7 W7 X H T2 E D
  t0 : ∀ b, b < w0.heap.size → τ b = 0
  tg : τ g = 0
  tg5 : τ g5 = 0
  lg : g < W7.heap.size
  lg5 : g5 < W7.heap.size
  l0 : w0.heap.size ≤ g5
  ne : g ≠ g5
  sb : Sb W7 g T E D
  tb : W7.heap[g5]? = some (.cells (sval T2 E D) 30 (0, 0))
  o : T2.o = (fun _ => 0) ∧ T2.co = (fun _ => 0) ∧ T2.lo = (fun _ => 0)

/-- The end: the copy holds the new state. -/
structure Fi (w0 : World) (g g5 : Nat) (W : World) (T T2 : Ad) (E : Env) (D D' : Dyn) : Prop where
  rd : Rd W w0.heap.size T E D
  rt : Rd W W.heap.size (T2.mix T) E D'
  sb : Sb W g T E D
  tb : W.heap[g5]? = some (.cells (sval T2 E D') 30 (0, 0))
  hb : Below w0.heap.size w0 W
  ho : Holds E D' zmix

theorem Sb.of_row {w : World} {g : Nat} {T : Ad} {E : Env} {D : Dyn} (h : w.heap[g]? = some (.cells (sval T E D) 30 (0, 0))) : Sb w g T E D := fun i hi => by
  simp only [World.cell?, h]
  have hs : (sval T E D).size = 19 := rfl
  show (sval T E D)[i]? = _
  rw [Array.getD_eq_getD_getElem?, Array.getElem?_eq_getElem (by omega)]
  rfl
theorem row_frozen {w : World} {g : Nat} {xs : Array Value} {t : TypeId} (h : w.heap[g]? = some (.cells xs t (0, 0))) (j : Nat) : w.frozen? ⟨g, j, none⟩ = false := frozen_of_row _ _ _ _ _ h
theorem row_set {w : World} {g : Nat} {xs : Array Value} {t : TypeId} (h : w.heap[g]? = some (.cells xs t (0, 0))) (j : Nat) (v : Value) : (w.setCell ⟨g, j, none⟩ v).heap[g]? = some (.cells (xs.setIfInBounds j v) t (0, 0)) := by
  have hg := (Array.getElem?_eq_some_iff.1 h).1
  simp only [World.setCell, Array.getElem?_modify, h]
  simp
theorem sval_set (T : Ad) (E : Env) (D D' : Dyn) : ((sval T E D).setIfInBounds 3 (.int .i64 D'.toPlace)).setIfInBounds 18 (.int .u64 (D'.hash : Nat)) = sval T E D' := rfl

section
variable {w0 W7 w' : World} {g g5 X H : Nat} {τ : Nat → Nat} {T T2 : Ad} {L : Nat → Nat} {E : Env} {D D' : Dyn}
theorem Md.s (h : Md w0 g g5 τ W7 X H T T2 L E D) (hi : Inv τ W7 w' X H T2 E D') : Sb w' g T E D := fun i hi' =>
  (World.cell?_of_block (a := ⟨g, i, none⟩) (hi.block h.lg h.tg)).trans (h.sb i hi')
theorem Md.t (h : Md w0 g g5 τ W7 X H T T2 L E D) (hi : Inv τ W7 w' X H T2 E D') : w'.heap[g5]? = some (.cells (sval T2 E D) 30 (0, 0)) := (hi.block h.lg5 h.tg5).trans h.tb
theorem Md.bel (h : Md w0 g g5 τ W7 X H T T2 L E D) (hi : Inv τ W7 w' X H T2 E D') : Below w0.heap.size w0 w' :=
  ⟨hi.fx.os.trans h.hb.os, hi.fx.tape.trans h.hb.tape, hi.fx.output.trans h.hb.output, Nat.le_trans h.hb.size hi.fx.size, fun k hk => (hi.block (Nat.lt_of_lt_of_le hk h.hb.size) (h.t0 k hk)).trans (h.hb.block k hk)⟩
theorem Md.rd (h : Md w0 g g5 τ W7 X H T T2 L E D) (hi : Inv τ W7 w' X H T2 E D') : Rd w' w0.heap.size T E D := (h.inp.rd h.len h.es).below (h.bel hi)
theorem Fx.setz {w : World} {p : Addr} (h : τ p.block = 0) (v : Value) : Fx (fun t => t = 0) τ w (w.setCell p v) :=
  ⟨rfl, rfl, rfl, by simp, fun k hk hp => Below.heap_setCell w p v k (fun e => hp (e ▸ h))⟩
/-- The search's own struct after a store into the copy's struct. -/
theorem Md.sx3 (h : Md w0 g g5 τ W7 X H T T2 L E D) (hi : Inv τ W7 w' X H T2 E D') (j : Nat) (v : Value) : Sx τ (w'.setCell ⟨g5, j, none⟩ v) X H T2 E D'.toPlace D'.hash :=
  hi.sx.fx (Fx.setz (τ := τ) (p := ⟨g5, j, none⟩) h.tg5 v) (by omega) (by omega) (by omega)
theorem Md.fin (h : Md w0 g g5 τ W7 X H T T2 L E D) (hi : Inv τ W7 w' X H T2 E D') : Fi w0 g g5 ((w'.setCell ⟨g5, 3, none⟩ (.int .i64 D'.toPlace)).setCell ⟨g5, 18, none⟩ (.int .u64 (D'.hash : Nat))) T T2 E D D' := by
  have hb1 : Below w0.heap.size w0 ((w'.setCell ⟨g5, 3, none⟩ (.int .i64 D'.toPlace)).setCell ⟨g5, 18, none⟩ (.int .u64 (D'.hash : Nat))) := ((h.bel hi).setCell (show w0.heap.size ≤ g5 from h.l0) _).setCell (show w0.heap.size ≤ g5 from h.l0) _
  have hfx := (Fx.setz (τ := τ) (w := w') (p := ⟨g5, 3, none⟩) h.tg5 (.int .i64 D'.toPlace)).trans (Fx.setz (τ := τ) (p := ⟨g5, 18, none⟩) h.tg5 (.int .u64 (D'.hash : Nat)))
  have htn := hi.tn.fx hfx (fun t h => .inl h)
  exact { rd := (h.inp.rd h.len h.es).below hb1
          rt := rd_of h.inp h.es htn h.o (hi.ho.rg hi.sz hi.kr) hi.sz hb1
          sb := fun i hi' => by
            rw [cell_far _ _ _ _ (fun e => h.ne e.symm), cell_far _ _ _ _ (fun e => h.ne e.symm)]
            exact h.s hi i hi'
          tb := by
            have := row_set (row_set (h.t hi) 3 (.int .i64 D'.toPlace)) 18 (.int .u64 (D'.hash : Nat))
            rw [sval_set] at this
            exact this
          hb := hb1
          ho := hi.ho }
theorem Fi.call (h : Fi w0 g g5 w' T T2 E D D') : Calls Try.prog 7 #[.slice T.oA E.n T.oc, .agg (sval T2 E D')] w' fun e w'' => e = .returned (.bool true) ∧ Below w0.heap.size w0 w'' := by
  refine (f7_to h.rt).mono ?_
  rintro e w'' ⟨r, rfl, hb, hr⟩
  have := hr.2 h.ho
  subst this
  exact ⟨rfl, h.hb.trans (hb.mono h.hb.size)⟩
theorem Fi.draw (h : Fi w0 g g5 w' T T2 E D D') (n : Nat) : Fi w0 g g5 (w'.drewN n) T T2 E D D' :=
  ⟨h.rd.below ⟨rfl, rfl, rfl, Nat.le_of_eq rfl, fun _ _ => rfl⟩, h.rt.below ⟨rfl, rfl, rfl, Nat.le_of_eq rfl, fun _ _ => rfl⟩, h.sb, h.tb, bdrewN h.hb n, h.ho⟩
end
end Go.Proofs.Qxb6616080a
