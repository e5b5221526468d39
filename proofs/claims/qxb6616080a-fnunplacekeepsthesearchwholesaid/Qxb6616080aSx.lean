/- THE SEARCH's OWN STRUCT (35 cells) and the history beneath it. -/
import Derived.Test.Qxb6616080aLk
namespace Go.Proofs.Qxb6616080a
open Go.RowKit
set_option linter.unusedVariables false
set_option linter.unusedSimpArgs false
set_option maxRecDepth 100000

/-- What the struct's cells hold. -/
structure XV (T : Ad) (E : Env) (H : Nat) (tp : Int) (hh : Nat) (v : Nat → Value) : Prop where
  v0 : v 0 = .pointer (some ⟨H, 0, none⟩)
  v1 : v 1 = .int .i32 E.only
  v2 : v 2 = .slice (T.A 1) E.nc (T.cap 1)
  v4 : v 4 = .slice (T.A 2) E.nc (T.cap 2)
  v5 : v 5 = .int .i64 tp
  v6 : v 6 = .slice (T.A 4) E.n (T.cap 4)
  v8 : v 8 = .slice (T.A 5) E.nv (T.cap 5)
  v9 : v 9 = .slice (T.A 6) E.n (T.cap 6)
  v10 : v 10 = .slice (T.A 7) E.n (T.cap 7)
  v15 : v 15 = .slice (T.A 11) E.nv (T.cap 11)
  v16 : v 16 = .slice (T.A 8) E.nv (T.cap 8)
  v17 : v 17 = .slice (T.A 9) E.nv (T.cap 9)
  v18 : v 18 = .slice (T.A 10) E.n (T.cap 10)
  v21 : v 21 = .slice (T.A 12) E.nv (T.cap 12)
  v22 : v 22 = .slice (T.A 13) E.nc (T.cap 13)
  v23 : v 23 = .slice (T.A 14) E.nc (T.cap 14)
  v24 : v 24 = .slice (T.A 15) E.nc (T.cap 15)
  v25 : v 25 = .slice (T.A 16) E.nl (T.cap 16)
  v27 : v 27 = .int .u64 (E.seed : Nat)
  v28 : v 28 = .int .u64 (hh : Nat)

structure Sx (τ : Nat → Nat) (w : World) (X H : Nat) (T : Ad) (E : Env) (tp : Int) (hh : Nat) : Prop where
  tx : τ X = 50
  th : τ H = 51
  xr : ∃ v, Arr w X 35 61 v ∧ XV T E H tp hh v
  hc : w.cell? ⟨H, 2, none⟩ = some (.slice T.oA E.n T.oc)
  on : 0 < E.n → T.oA = some ⟨T.ob, 0, none⟩ ∧ τ T.ob = 52
  o0 : ∀ i, i < E.n → w.cell? ⟨T.ob, i * 6, none⟩ = some (.int .i32 (E.proc i))
  o2 : ∀ i, i < E.n → w.cell? ⟨T.ob, i * 6 + 2, none⟩ = some (.bool (E.wr i))
  o3 : ∀ i, i < E.n → w.cell? ⟨T.ob, i * 6 + 3, none⟩ = some (.int .i32 (E.vv i))
  o5 : ∀ i, i < E.n → w.cell? ⟨T.ob, i * 6 + 5, none⟩ = some (.int .i32 (E.src i))

section
variable {τ : Nat → Nat} {w w' : World} {X H : Nat} {T : Ad} {E : Env} {D : Dyn} {tp : Int} {hh : Nat}
theorem Sx.fx (h : Sx τ w X H T E tp hh) {p : Nat → Prop} (k : Fx p τ w w') (h0 : ¬ p 50) (h1 : ¬ p 51) (h2 : ¬ p 52) : Sx τ w' X H T E tp hh :=
  { tx := h.tx, th := h.th, on := h.on
    xr := by obtain ⟨v, ha, hv⟩ := h.xr; exact ⟨v, ha.of_block (k.block X ha.lt (h.tx ▸ h0)), hv⟩
    hc := k.cell h.hc (show ¬ p (τ H) from h.th ▸ h1)
    o0 := fun i hi => k.cell (h.o0 i hi) (show ¬ p (τ T.ob) from (h.on (Nat.zero_lt_of_lt hi)).2 ▸ h2)
    o2 := fun i hi => k.cell (h.o2 i hi) (show ¬ p (τ T.ob) from (h.on (Nat.zero_lt_of_lt hi)).2 ▸ h2)
    o3 := fun i hi => k.cell (h.o3 i hi) (show ¬ p (τ T.ob) from (h.on (Nat.zero_lt_of_lt hi)).2 ▸ h2)
    o5 := fun i hi => k.cell (h.o5 i hi) (show ¬ p (τ T.ob) from (h.on (Nat.zero_lt_of_lt hi)).2 ▸ h2) }
theorem Sx.below (h : Sx τ w X H T E tp hh) (k : Below w.heap.size w w') : Sx τ w' X H T E tp hh :=
  h.fx (p := fun _ => False) (⟨k.os, k.tape, k.output, k.size, fun g hg _ => k.block g hg⟩) (fun h => h) (fun h => h) (fun h => h)
theorem Fx.ofBelow {p : Nat → Prop} (k : Below w.heap.size w w') : Fx p τ w w' := ⟨k.os, k.tape, k.output, k.size, fun g hg _ => k.block g hg⟩
theorem Tn.fx (h : Tn τ w T E D) {p : Nat → Prop} (k : Fx p τ w w') (hp : ∀ t, p t → t = 0 ∨ 20 < t ∧ t < 100) : Tn τ w' T E D := by
  refine ⟨fun i hi => ?_, fun c hc hl => ?_, fun l hl hll => ?_⟩
  · obtain ⟨h1, h2, h3⟩ := h.row i hi
    refine ⟨h1, h2, h3.of_block (k.block _ h3.lt (fun e => ?_))⟩
    have hi17 : 1 ≤ i ∧ i ≤ 16 := by
      unfold lenF at hi
      split at hi <;> omega
    have := hp _ e
    omega
  · obtain ⟨h1, h2, h3⟩ := h.chn c hc hl
    refine ⟨h1, h2, h3.of_block (k.block _ h3.lt (fun e => ?_))⟩
    have := hp _ e
    omega
  · obtain ⟨h1, h2, h3⟩ := h.lvl l hl hll
    refine ⟨h1, h2, h3.of_block (k.block _ h3.lt (fun e => ?_))⟩
    have := hp _ e
    omega
theorem Sx.frozen (h : Sx τ w X H T E tp hh) (i : Nat) : w.frozen? ⟨X, i, none⟩ = false := by
  obtain ⟨v, ha, _⟩ := h.xr
  exact ha.frozen i
theorem Sx.setHash (h : Sx τ w X H T E tp hh) (z : Nat) : Sx τ (w.setCell ⟨X, 28, none⟩ (.int .u64 (z : Nat))) X H T E tp z := by
  have hX := h.tx
  have hf : Fx (fun t => t = 50) τ w (w.setCell ⟨X, 28, none⟩ (.int .u64 (z : Nat))) := (Fx.refl _ _ _).setCell (show τ X = 50 from hX) _
  obtain ⟨v, ha, hv⟩ := h.xr
  exact { tx := h.tx, th := h.th, on := h.on
          xr := ⟨_, ha.set (j := 28) (by omega) _, by constructor <;> first | (rw [fset_ne _ _ (by decide)]; first | exact hv.v0 | exact hv.v1 | exact hv.v2 | exact hv.v4 | exact hv.v5 | exact hv.v6 | exact hv.v8 | exact hv.v9 | exact hv.v10 | exact hv.v15 | exact hv.v16 | exact hv.v17 | exact hv.v18 | exact hv.v21 | exact hv.v22 | exact hv.v23 | exact hv.v24 | exact hv.v25 | exact hv.v27) | exact fset_self _ _ _⟩
          hc := hf.cell h.hc (by show ¬ τ H = 50; rw [h.th]; omega)
          o0 := fun i hi => hf.cell (h.o0 i hi) (by show ¬ τ T.ob = 50; rw [(h.on (Nat.zero_lt_of_lt hi)).2]; omega)
          o2 := fun i hi => hf.cell (h.o2 i hi) (by show ¬ τ T.ob = 50; rw [(h.on (Nat.zero_lt_of_lt hi)).2]; omega)
          o3 := fun i hi => hf.cell (h.o3 i hi) (by show ¬ τ T.ob = 50; rw [(h.on (Nat.zero_lt_of_lt hi)).2]; omega)
          o5 := fun i hi => hf.cell (h.o5 i hi) (by show ¬ τ T.ob = 50; rw [(h.on (Nat.zero_lt_of_lt hi)).2]; omega) }
theorem Sx.setTp (h : Sx τ w X H T E tp hh) (z : Int) : Sx τ (w.setCell ⟨X, 5, none⟩ (.int .i64 z)) X H T E z hh := by
  have hX := h.tx
  have hf : Fx (fun t => t = 50) τ w (w.setCell ⟨X, 5, none⟩ (.int .i64 z)) := (Fx.refl _ _ _).setCell (show τ X = 50 from hX) _
  obtain ⟨v, ha, hv⟩ := h.xr
  exact { tx := h.tx, th := h.th, on := h.on
          xr := ⟨_, ha.set (j := 5) (by omega) _, by constructor <;> first | (rw [fset_ne _ _ (by decide)]; first | exact hv.v0 | exact hv.v1 | exact hv.v2 | exact hv.v4 | exact hv.v28 | exact hv.v6 | exact hv.v8 | exact hv.v9 | exact hv.v10 | exact hv.v15 | exact hv.v16 | exact hv.v17 | exact hv.v18 | exact hv.v21 | exact hv.v22 | exact hv.v23 | exact hv.v24 | exact hv.v25 | exact hv.v27) | exact fset_self _ _ _⟩
          hc := hf.cell h.hc (by show ¬ τ H = 50; rw [h.th]; omega)
          o0 := fun i hi => hf.cell (h.o0 i hi) (by show ¬ τ T.ob = 50; rw [(h.on (Nat.zero_lt_of_lt hi)).2]; omega)
          o2 := fun i hi => hf.cell (h.o2 i hi) (by show ¬ τ T.ob = 50; rw [(h.on (Nat.zero_lt_of_lt hi)).2]; omega)
          o3 := fun i hi => hf.cell (h.o3 i hi) (by show ¬ τ T.ob = 50; rw [(h.on (Nat.zero_lt_of_lt hi)).2]; omega)
          o5 := fun i hi => hf.cell (h.o5 i hi) (by show ¬ τ T.ob = 50; rw [(h.on (Nat.zero_lt_of_lt hi)).2]; omega) }
theorem Sx.x0 (h : Sx τ w X H T E tp hh) : w.cell? ⟨X, 0, none⟩ = some (.pointer (some ⟨H, 0, none⟩)) := by obtain ⟨v, ha, hv⟩ := h.xr; rw [ha.cell (by omega), hv.v0]
theorem Sx.x1 (h : Sx τ w X H T E tp hh) : w.cell? ⟨X, 1, none⟩ = some (.int .i32 E.only) := by obtain ⟨v, ha, hv⟩ := h.xr; rw [ha.cell (by omega), hv.v1]
theorem Sx.x2 (h : Sx τ w X H T E tp hh) : w.cell? ⟨X, 2, none⟩ = some (.slice (T.A 1) E.nc (T.cap 1)) := by obtain ⟨v, ha, hv⟩ := h.xr; rw [ha.cell (by omega), hv.v2]
theorem Sx.x4 (h : Sx τ w X H T E tp hh) : w.cell? ⟨X, 4, none⟩ = some (.slice (T.A 2) E.nc (T.cap 2)) := by obtain ⟨v, ha, hv⟩ := h.xr; rw [ha.cell (by omega), hv.v4]
theorem Sx.x5 (h : Sx τ w X H T E tp hh) : w.cell? ⟨X, 5, none⟩ = some (.int .i64 tp) := by obtain ⟨v, ha, hv⟩ := h.xr; rw [ha.cell (by omega), hv.v5]
theorem Sx.x6 (h : Sx τ w X H T E tp hh) : w.cell? ⟨X, 6, none⟩ = some (.slice (T.A 4) E.n (T.cap 4)) := by obtain ⟨v, ha, hv⟩ := h.xr; rw [ha.cell (by omega), hv.v6]
theorem Sx.x8 (h : Sx τ w X H T E tp hh) : w.cell? ⟨X, 8, none⟩ = some (.slice (T.A 5) E.nv (T.cap 5)) := by obtain ⟨v, ha, hv⟩ := h.xr; rw [ha.cell (by omega), hv.v8]
theorem Sx.x9 (h : Sx τ w X H T E tp hh) : w.cell? ⟨X, 9, none⟩ = some (.slice (T.A 6) E.n (T.cap 6)) := by obtain ⟨v, ha, hv⟩ := h.xr; rw [ha.cell (by omega), hv.v9]
theorem Sx.x10 (h : Sx τ w X H T E tp hh) : w.cell? ⟨X, 10, none⟩ = some (.slice (T.A 7) E.n (T.cap 7)) := by obtain ⟨v, ha, hv⟩ := h.xr; rw [ha.cell (by omega), hv.v10]
theorem Sx.x15 (h : Sx τ w X H T E tp hh) : w.cell? ⟨X, 15, none⟩ = some (.slice (T.A 11) E.nv (T.cap 11)) := by obtain ⟨v, ha, hv⟩ := h.xr; rw [ha.cell (by omega), hv.v15]
theorem Sx.x16 (h : Sx τ w X H T E tp hh) : w.cell? ⟨X, 16, none⟩ = some (.slice (T.A 8) E.nv (T.cap 8)) := by obtain ⟨v, ha, hv⟩ := h.xr; rw [ha.cell (by omega), hv.v16]
theorem Sx.x17 (h : Sx τ w X H T E tp hh) : w.cell? ⟨X, 17, none⟩ = some (.slice (T.A 9) E.nv (T.cap 9)) := by obtain ⟨v, ha, hv⟩ := h.xr; rw [ha.cell (by omega), hv.v17]
theorem Sx.x18 (h : Sx τ w X H T E tp hh) : w.cell? ⟨X, 18, none⟩ = some (.slice (T.A 10) E.n (T.cap 10)) := by obtain ⟨v, ha, hv⟩ := h.xr; rw [ha.cell (by omega), hv.v18]
theorem Sx.x21 (h : Sx τ w X H T E tp hh) : w.cell? ⟨X, 21, none⟩ = some (.slice (T.A 12) E.nv (T.cap 12)) := by obtain ⟨v, ha, hv⟩ := h.xr; rw [ha.cell (by omega), hv.v21]
theorem Sx.x22 (h : Sx τ w X H T E tp hh) : w.cell? ⟨X, 22, none⟩ = some (.slice (T.A 13) E.nc (T.cap 13)) := by obtain ⟨v, ha, hv⟩ := h.xr; rw [ha.cell (by omega), hv.v22]
theorem Sx.x23 (h : Sx τ w X H T E tp hh) : w.cell? ⟨X, 23, none⟩ = some (.slice (T.A 14) E.nc (T.cap 14)) := by obtain ⟨v, ha, hv⟩ := h.xr; rw [ha.cell (by omega), hv.v23]
theorem Sx.x24 (h : Sx τ w X H T E tp hh) : w.cell? ⟨X, 24, none⟩ = some (.slice (T.A 15) E.nc (T.cap 15)) := by obtain ⟨v, ha, hv⟩ := h.xr; rw [ha.cell (by omega), hv.v24]
theorem Sx.x25 (h : Sx τ w X H T E tp hh) : w.cell? ⟨X, 25, none⟩ = some (.slice (T.A 16) E.nl (T.cap 16)) := by obtain ⟨v, ha, hv⟩ := h.xr; rw [ha.cell (by omega), hv.v25]
theorem Sx.x27 (h : Sx τ w X H T E tp hh) : w.cell? ⟨X, 27, none⟩ = some (.int .u64 (E.seed : Nat)) := by obtain ⟨v, ha, hv⟩ := h.xr; rw [ha.cell (by omega), hv.v27]
theorem Sx.x28 (h : Sx τ w X H T E tp hh) : w.cell? ⟨X, 28, none⟩ = some (.int .u64 (hh : Nat)) := by obtain ⟨v, ha, hv⟩ := h.xr; rw [ha.cell (by omega), hv.v28]
theorem Sx.lt (h : Sx τ w X H T E tp hh) : X < w.heap.size := by obtain ⟨v, ha, hv⟩ := h.xr; exact ha.lt
end
end Go.Proofs.Qxb6616080a
