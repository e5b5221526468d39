/- COPYING THE SEARCH: the three structs of 'copySearch'. -/
import Derived.Test.Qxb6616080aCp
import Derived.Test.Qxb6616080aF7z
import Derived.Laws.Rows
import Derived.Laws.Tables
namespace Go.Proofs.Qxb6616080a
open Go.RowKit
set_option linter.unusedVariables false
set_option linter.unusedSimpArgs false

/-- The struct's fields, by number. -/
def sF (T : Ad) (E : Env) (D : Dyn) : Nat → Value
  | 0 => .int .i32 E.only
  | 3 => .int .i64 D.toPlace
  | 17 => .int .u64 (E.seed : Nat)
  | 18 => .int .u64 (D.hash : Nat)
  | j => .slice (T.A j) (lenF E j) (T.cap j)
theorem sval_at (T : Ad) (E : Env) (D : Dyn) : ∀ j, j < 19 → (sval T E D)[j]? = some (sF T E D j) := fun j hj => by
  have : j = 0 ∨ j = 1 ∨ j = 2 ∨ j = 3 ∨ j = 4 ∨ j = 5 ∨ j = 6 ∨ j = 7 ∨ j = 8 ∨ j = 9 ∨ j = 10 ∨ j = 11 ∨ j = 12 ∨ j = 13 ∨ j = 14 ∨ j = 15 ∨ j = 16 ∨ j = 17 ∨ j = 18 := by omega
  rcases this with h | h | h | h | h | h | h | h | h | h | h | h | h | h | h | h | h | h | h <;> subst h <;> rfl
theorem sval_size (T : Ad) (E : Env) (D : Dyn) : (sval T E D).size = 19 := rfl
theorem sF_put {T : Ad} {E : Env} {D : Dyn} {i : Nat} {a : Option Addr} {b c : Nat} {j : Nat} (h : j ≠ i) : sF (T.put i a b c) E D j = sF T E D j := by
  unfold sF Ad.put
  split <;> first | rfl | simp [upd_ne _ _ h]
theorem sF_self {T : Ad} {E : Env} {D : Dyn} {i : Nat} {a : Option Addr} {b c : Nat} (h0 : i ≠ 0) (h3 : i ≠ 3) (h17 : i ≠ 17) (h18 : i ≠ 18) : sF (T.put i a b c) E D i = .slice a (lenF E i) c := by
  unfold sF Ad.put
  split <;> first | omega | simp [upd_self]
theorem sF_at {T : Ad} {E : Env} {D : Dyn} {i : Nat} (h0 : i ≠ 0) (h3 : i ≠ 3) (h17 : i ≠ 17) (h18 : i ≠ 18) : sF T E D i = .slice (T.A i) (lenF E i) (T.cap i) := by
  unfold sF
  split <;> first | omega | rfl

structure C9 (w0 w : World) (m : Nat) (τ : Nat → Nat) (T0 T : Ad) (E : Env) (D : Dyn) (g1 g2 g3 : Nat) : Prop where
  cp : Cpy w0 w m τ T E D
  s : Arr w g1 19 30 (sF T0 E D)
  r : ∃ u, Arr w g2 19 30 u
  t : ∃ u, Arr w g3 19 30 u ∧ ∀ j, j < m → u j = sF T E D j
  l1 : w0.heap.size ≤ g1
  l2 : w0.heap.size ≤ g2
  l3 : w0.heap.size ≤ g3
  t1 : τ g1 = 0
  t2 : τ g2 = 0
  t3 : τ g3 = 0
  n1 : g1 ≠ g3
  n2 : g2 ≠ g3
  o : T.o = (fun _ => 0) ∧ T.co = (fun _ => 0) ∧ T.lo = (fun _ => 0)

section
variable {w0 w w1 : World} {m : Nat} {τ : Nat → Nat} {T0 T : Ad} {E : Env} {D : Dyn} {g1 g2 g3 : Nat}
theorem C9.x (h : C9 w0 w m τ T0 T E D g1 g2 g3) {i : Nat} (hi : i < 19) {v : Value} (hv : sF T0 E D i = v) : w.cell? ⟨g1, i, none⟩ = some v := hv ▸ h.s.cell hi
theorem C9.tc (h : C9 w0 w m τ T0 T E D g1 g2 g3) (hb : Below w.heap.size w w1) (i : Nat) (hi : i < 19) : ∃ v, w1.cell? ⟨g3, i, none⟩ = some v ∧ w1.frozen? ⟨g3, i, none⟩ = false := by
  obtain ⟨u, hu, _⟩ := h.t
  have := hu.below hb hu.lt
  exact ⟨_, this.cell hi, this.frozen i⟩

theorem C9.scalar (h : C9 w0 w m τ T0 T E D g1 g2 g3) (hm : m = 0 ∨ m = 3 ∨ m = 17 ∨ m = 18) {v : Value} (hv : sF T0 E D m = v) : C9 w0 (w.setCell ⟨g3, m, none⟩ v) (m + 1) τ T0 T E D g1 g2 g3 := by
  have hl : lenF E m = 0 := by rcases hm with rfl | rfl | rfl | rfl <;> rfl
  have he : sF T E D m = v := by rw [← hv]; rcases hm with rfl | rfl | rfl | rfl <;> rfl
  obtain ⟨u, hu, huj⟩ := h.t
  obtain ⟨u2, hu2⟩ := h.r
  exact { h with
    cp := (h.cp.skip hl (by omega) (by omega)).set h.l3 h.t3 m v
    s := h.s.far (p := ⟨g3, m, none⟩) h.n1 v
    r := ⟨u2, hu2.far (p := ⟨g3, m, none⟩) h.n2 v⟩
    t := ⟨_, hu.set (j := m) (by omega) v, fun j hj => by
      by_cases e : j = m
      · subst e; rw [fset_self, he]
      · rw [fset_ne _ _ e]; exact huj j (by omega)⟩ }

theorem C9.gen (h : C9 w0 w m τ T0 T E D g1 g2 g3) (hm : 1 ≤ m ∧ m ≤ 16 ∧ m ≠ 3) {τ' : Nat → Nat} {T' : Ad} {a' : Option Addr} {c' : Nat} (hcp : Cpy w0 w1 (m + 1) τ' T' E D) (hb : Below w.heap.size w w1) (hτ : ∀ b, b < w.heap.size → τ' b = τ b)
    (hself : sF T' E D m = .slice a' (lenF E m) c') (hoth : ∀ j, j < m → sF T' E D j = sF T E D j) (ho : T'.o = T.o ∧ T'.co = T.co ∧ T'.lo = T.lo) : C9 w0 (w1.setCell ⟨g3, m, none⟩ (.slice a' (lenF E m) c')) (m + 1) τ' T0 T' E D g1 g2 g3 := by
  obtain ⟨u, hu, huj⟩ := h.t
  obtain ⟨u2, hu2⟩ := h.r
  have t3' : τ' g3 = 0 := by rw [hτ g3 hu.lt]; exact h.t3
  exact { h with
    cp := hcp.set h.l3 t3' m _
    s := (h.s.below hb h.s.lt).far (p := ⟨g3, m, none⟩) h.n1 _
    r := ⟨u2, (hu2.below hb hu2.lt).far (p := ⟨g3, m, none⟩) h.n2 _⟩
    t := ⟨_, (hu.below hb hu.lt).set (j := m) (by omega) _, fun j hj => by
      by_cases e : j = m
      · subst e; rw [fset_self, hself]
      · rw [fset_ne _ _ e, hoth j (by omega)]; exact huj j (by omega)⟩
    t1 := by rw [hτ g1 h.s.lt]; exact h.t1
    t2 := by rw [hτ g2 hu2.lt]; exact h.t2
    t3 := t3'
    o := by rw [ho.1, ho.2.1, ho.2.2]; exact h.o }
theorem C9.field (h : C9 w0 w m τ T0 T E D g1 g2 g3) (h2 : 2 ≤ m) (h15 : m ≤ 15) (h3 : m ≠ 3) {a' : Option Addr} {c' : Nat} (hc : Cl w w1 a' (lenF E m) c' (tyF m) (datF T E D m)) :
    ∃ τ' T', C9 w0 (w1.setCell ⟨g3, m, none⟩ (.slice a' (lenF E m) c')) (m + 1) τ' T0 T' E D g1 g2 g3 := by
  obtain ⟨τ', hcp, hτ⟩ := h.cp.step h2 h15 hc
  exact ⟨τ', _, h.gen (by omega) hcp hc.bel hτ (sF_self (by omega) (by omega) (by omega) (by omega)) (fun j hj => sF_put (by omega)) ⟨rfl, rfl, rfl⟩⟩
theorem C9.chains (h : C9 w0 w 1 τ T0 T E D g1 g2 g3) {a' : Option Addr} {c' : Nat} {A' : Nat → Option Addr} {B' C' : Nat → Nat} (hb : Below w.heap.size w w1) (hor : (a' = none ∧ E.nc = 0 ∧ c' = 0 ∧ w1 = w) ∨ (a' = some ⟨w.heap.size, 0, none⟩ ∧ c' = E.nc ∧ Arr w1 w.heap.size E.nc 26 (fun j => .slice (A' j) (E.cl j) (C' j))))
    (hc : Cls w.heap.size w1 E.nc 21 E.cl (fun j k => .int .i32 (E.ch j k)) A' B') :
    ∃ τ' T', C9 w0 (w1.setCell ⟨g3, 1, none⟩ (.slice a' E.nc c')) 2 τ' T0 T' E D g1 g2 g3 := by
  obtain ⟨τ', hcp, hτ⟩ := h.cp.step1 hb hor hc
  exact ⟨τ', _, h.gen (by omega) hcp hb hτ (by rfl) (fun j hj => by
    have e : j = 0 := Nat.lt_one_iff.1 hj
    subst e
    rfl) ⟨rfl, rfl, rfl⟩⟩
theorem C9.levels (h : C9 w0 w 16 τ T0 T E D g1 g2 g3) {a' : Option Addr} {c' : Nat} {A' : Nat → Option Addr} {B' C' : Nat → Nat} (hb : Below w.heap.size w w1) (hor : (a' = none ∧ E.nl = 0 ∧ c' = 0 ∧ w1 = w) ∨ (a' = some ⟨w.heap.size, 0, none⟩ ∧ c' = E.nl ∧ Arr w1 w.heap.size E.nl 44 (fun j => .slice (A' j) (E.ll j) (C' j))))
    (hc : Cls w.heap.size w1 E.nl 28 E.ll (fun j k => .int .u64 (D.lw j k : Nat)) A' B') :
    ∃ τ' T', C9 w0 (w1.setCell ⟨g3, 16, none⟩ (.slice a' E.nl c')) 17 τ' T0 T' E D g1 g2 g3 := by
  obtain ⟨τ', hcp, hτ⟩ := h.cp.step16 hb hor hc
  refine ⟨τ', _, h.gen (by omega) hcp hb hτ (by rfl) (fun j hj => ?_) ⟨rfl, rfl, rfl⟩⟩
  have := sF_put (T := T) (E := E) (D := D) (i := 16) (a := a') (b := w.heap.size) (c := c') (j := j) (by omega)
  rw [← this]
  unfold sF
  split <;> rfl
/-- The struct as a whole. -/
theorem C9.whole (h : C9 w0 w 19 τ T0 T E D g1 g2 g3) : w.heap[g3]? = some (.cells (sval T E D) 30 (0, 0)) := by
  obtain ⟨u, ⟨xs, h1, h2, h3⟩, huj⟩ := h.t
  have : xs = sval T E D := by
    apply Array.ext
    · rw [h2, sval_size]
    · intro i h4 h5
      have e1 := h3 i (by omega)
      have e2 := sval_at T E D i (by omega)
      rw [huj i (by omega), ← e2] at e1
      rw [Array.getElem?_eq_getElem h4, Array.getElem?_eq_getElem h5] at e1
      exact Option.some.inj e1
  rw [← this]; exact h1
end
end Go.Proofs.Qxb6616080a
