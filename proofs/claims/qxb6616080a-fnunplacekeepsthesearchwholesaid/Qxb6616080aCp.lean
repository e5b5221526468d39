/- COPYING THE SEARCH: the rows that stand already, told apart by tags. -/
import Derived.Test.Qxb6616080aH30
namespace Go.Proofs.Qxb6616080a
open Go.RowKit
set_option linter.unusedVariables false
set_option linter.unusedSimpArgs false

structure Cpy (w0 w : World) (m : Nat) (τ : Nat → Nat) (T : Ad) (E : Env) (D : Dyn) : Prop where
  bel : Below w0.heap.size w0 w
  z0 : ∀ b, b < w0.heap.size → τ b = 0
  z1 : ∀ b, w.heap.size ≤ b → τ b = 0
  row : ∀ i, i < m → 0 < lenF E i → T.A i = some ⟨T.b i, 0, none⟩ ∧ τ (T.b i) = i ∧ Arr w (T.b i) (lenF E i) (tyF i) (datF T E D i)
  chn : 1 < m → ∀ c, c < E.nc → 0 < E.cl c → T.cA c = some ⟨T.cb c, 0, none⟩ ∧ τ (T.cb c) = 1 ∧ Arr w (T.cb c) (E.cl c) 21 (fun k => .int .i32 (E.ch c k))
  lvl : 16 < m → ∀ l, l < E.nl → 0 < E.ll l → T.lA l = some ⟨T.lb l, 0, none⟩ ∧ τ (T.lb l) = 100 + l ∧ Arr w (T.lb l) (E.ll l) 28 (fun i => .int .u64 (D.lw l i : Nat))

def Ad.put (T : Ad) (i : Nat) (a : Option Addr) (b c : Nat) : Ad := { T with A := upd T.A i a, b := upd T.b i b, cap := upd T.cap i c }

theorem lenF_pos {E : Env} {i : Nat} (h : 0 < lenF E i) : 1 ≤ i ∧ i ≤ 16 ∧ i ≠ 3 := by
  unfold lenF at h
  split at h <;> omega

section
variable {w0 w w1 : World} {m : Nat} {τ : Nat → Nat} {T : Ad} {E : Env} {D : Dyn}

theorem datF_put (i : Nat) (a : Option Addr) (b c : Nat) : datF (T.put i a b c) E D = datF T E D := by
  funext i j
  unfold datF Ad.put
  split <;> rfl

theorem Cpy.start (h : Below w0.heap.size w0 w) (T : Ad) (E : Env) (D : Dyn) : Cpy w0 w 0 (fun _ => 0) T E D := ⟨h, fun _ _ => rfl, fun _ _ => rfl, fun i h => by omega, fun h => by omega, fun h => by omega⟩

/-- The world changes in blocks of no tag alone. -/
theorem Cpy.other (h : Cpy w0 w m τ T E D) (hb : Below w0.heap.size w0 w1) (hs : w.heap.size ≤ w1.heap.size) (hg : ∀ b, b < w.heap.size → τ b ≠ 0 → w1.heap[b]? = w.heap[b]?) : Cpy w0 w1 m τ T E D :=
  ⟨hb, h.z0, fun b hb => h.z1 b (by omega), fun i hi hl => by
      obtain ⟨h1, h2, h3⟩ := h.row i hi hl
      exact ⟨h1, h2, h3.of_block (hg _ h3.lt (by rw [h2]; have := lenF_pos hl; omega))⟩,
    fun hm c hc hl => by
      obtain ⟨h1, h2, h3⟩ := h.chn hm c hc hl
      exact ⟨h1, h2, h3.of_block (hg _ h3.lt (by rw [h2]; omega))⟩,
    fun hm l hl hll => by
      obtain ⟨h1, h2, h3⟩ := h.lvl hm l hl hll
      exact ⟨h1, h2, h3.of_block (hg _ h3.lt (by rw [h2]; omega))⟩⟩
theorem Cpy.set (h : Cpy w0 w m τ T E D) {g : Nat} (hg : w0.heap.size ≤ g) (hτ : τ g = 0) (j : Nat) (u : Value) : Cpy w0 (w.setCell ⟨g, j, none⟩ u) m τ T E D :=
  h.other (h.bel.setCell hg _) (by simp) (fun b hb ht => Below.heap_setCell w ⟨g, j, none⟩ u b (by show b ≠ g; intro e; subst e; exact ht hτ))
theorem Cpy.alloc (h : Cpy w0 w m τ T E D) (o : Obj) : Cpy w0 (w.alloc o) m τ T E D :=
  h.other (h.bel.alloc h.bel.size _) (by simp) (fun b hb _ => Below.heap_alloc w o b hb)
theorem Cpy.skip (h : Cpy w0 w m τ T E D) (hm : lenF E m = 0) (h1 : m ≠ 1) (h16 : m ≠ 16) : Cpy w0 w (m + 1) τ T E D :=
  ⟨h.bel, h.z0, h.z1, fun i hi hl => h.row i (Nat.lt_of_le_of_ne (by omega) (fun e => by subst e; omega)) hl, fun hm => h.chn (by omega), fun hm => h.lvl (by omega)⟩
theorem Cpy.step (h : Cpy w0 w m τ T E D) (h2 : 2 ≤ m) (h15 : m ≤ 15) {a' : Option Addr} {c' : Nat} (hc : Cl w w1 a' (lenF E m) c' (tyF m) (datF T E D m)) : ∃ τ', Cpy w0 w1 (m + 1) τ' (T.put m a' w.heap.size c') E D ∧ ∀ b, b < w.heap.size → τ' b = τ b := by
  have hbel : Below w0.heap.size w0 w1 := h.bel.trans (hc.bel.mono h.bel.size)
  rcases hc.or with ⟨h1, hn, hc0, hw⟩ | ⟨ha, hcn, harr, hsz⟩
  · refine ⟨τ, ⟨hbel, h.z0, hw ▸ h.z1, fun i hi hl => ?_, fun hm c hc hl => ?_, fun hm => by omega⟩, fun _ _ => rfl⟩
    · have hne : i ≠ m := fun e => by subst e; omega
      rw [datF_put, hw]
      simp only [Ad.put, upd_ne _ _ hne]
      exact h.row i (by omega) hl
    · rw [hw]
      exact h.chn (by omega) c hc hl
  · refine ⟨upd τ w.heap.size m, ⟨hbel, fun b hb => ?_, fun b hb => ?_, fun i hi hl => ?_, fun hm c hc' hl => ?_, fun hm => by omega⟩, fun b hb => upd_ne _ _ (by omega)⟩
    · rw [upd_ne _ _ (by have := h.bel.size; omega)]; exact h.z0 b hb
    · rw [upd_ne _ _ (by omega)]; exact h.z1 b (by omega)
    · rw [datF_put]
      by_cases e : i = m
      · subst e
        simp only [Ad.put, upd_self]
        exact ⟨ha, trivial, harr⟩
      · simp only [Ad.put, upd_ne _ _ e]
        obtain ⟨h1, h2, h3⟩ := h.row i (by omega) hl
        rw [upd_ne _ _ (by have := h3.lt; omega)]
        exact ⟨h1, h2, h3.below hc.bel h3.lt⟩
    · obtain ⟨h1, h2, h3⟩ := h.chn (by omega) c hc' hl
      refine ⟨h1, ?_, h3.below hc.bel h3.lt⟩
      show upd τ w.heap.size m (T.cb c) = 1
      rw [upd_ne _ _ (by have := h3.lt; omega)]
      exact h2

/-- The chains. -/
theorem Cpy.step1 (h : Cpy w0 w 1 τ T E D) {a' : Option Addr} {c' : Nat} {A' : Nat → Option Addr} {B' C' : Nat → Nat} (hb : Below w.heap.size w w1) (hor : (a' = none ∧ E.nc = 0 ∧ c' = 0 ∧ w1 = w) ∨ (a' = some ⟨w.heap.size, 0, none⟩ ∧ c' = E.nc ∧ Arr w1 w.heap.size E.nc 26 (fun j => .slice (A' j) (E.cl j) (C' j))))
    (hc : Cls w.heap.size w1 E.nc 21 E.cl (fun j k => .int .i32 (E.ch j k)) A' B') :
    ∃ τ', Cpy w0 w1 2 τ' { T.put 1 a' w.heap.size c' with cA := A', cb := B', cc := C' } E D ∧ ∀ b, b < w.heap.size → τ' b = τ b := by
  have hbel : Below w0.heap.size w0 w1 := h.bel.trans (hb.mono h.bel.size)
  refine ⟨fun b => if w.heap.size ≤ b ∧ b < w1.heap.size then 1 else τ b, ⟨hbel, fun b hb => ?_, fun b hb => ?_, fun i hi hl => ?_, fun hm c hc' hl => ?_, fun hm => by omega⟩, fun b hb => ?_⟩
  · have := h.bel.size
    show (if _ then _ else _) = _
    rw [if_neg (by omega)]; exact h.z0 b hb
  · show (if _ then _ else _) = _
    rw [if_neg (by omega)]; exact h.z1 b (by have := hb; have := ‹Below w.heap.size w w1›.size; omega)
  · have := lenF_pos hl
    have e : i = 1 := by omega
    subst e
    rcases hor with ⟨_, h0, _⟩ | ⟨ha, hcn, harr⟩
    · exact absurd hl (by show ¬ 0 < E.nc; omega)
    · refine ⟨?_, ?_, ?_⟩
      · simp only [Ad.put, upd_self]; exact ha
      · simp only [Ad.put, upd_self]
        rw [if_pos ⟨Nat.le_refl _, harr.lt⟩]
      · simp only [Ad.put, upd_self]; exact harr
  · obtain ⟨h1, h2, h3, h4⟩ := hc.at_ c hc' hl
    refine ⟨h1, ?_, h4⟩
    show (if _ then _ else _) = _
    rw [if_pos (by show w.heap.size ≤ B' c ∧ B' c < w1.heap.size; omega)]
  · show (if _ then _ else _) = _
    rw [if_neg (by omega)]

open Classical in
/-- The levels. -/
theorem Cpy.step16 (h : Cpy w0 w 16 τ T E D) {a' : Option Addr} {c' : Nat} {A' : Nat → Option Addr} {B' C' : Nat → Nat} (hb : Below w.heap.size w w1) (hor : (a' = none ∧ E.nl = 0 ∧ c' = 0 ∧ w1 = w) ∨ (a' = some ⟨w.heap.size, 0, none⟩ ∧ c' = E.nl ∧ Arr w1 w.heap.size E.nl 44 (fun j => .slice (A' j) (E.ll j) (C' j))))
    (hc : Cls w.heap.size w1 E.nl 28 E.ll (fun j k => .int .u64 (D.lw j k : Nat)) A' B') :
    ∃ τ', Cpy w0 w1 17 τ' { T.put 16 a' w.heap.size c' with lA := A', lb := B', lc := C' } E D ∧ ∀ b, b < w.heap.size → τ' b = τ b := by
  have hbel : Below w0.heap.size w0 w1 := h.bel.trans (hb.mono h.bel.size)
  let q : Nat → Prop := fun b => ∃ l, l < E.nl ∧ 0 < E.ll l ∧ B' l = b
  have hq : ∀ b, q b → w.heap.size < b ∧ b < w1.heap.size := fun b ⟨l, hl, hll, e⟩ => by
    obtain ⟨_, h2, h3, _⟩ := hc.at_ l hl hll
    omega
  let τ' : Nat → Nat := fun b => if hx : q b then 100 + hx.choose else if b = w.heap.size ∧ 0 < E.nl then 16 else τ b
  have hlow : ∀ b, b < w.heap.size → τ' b = τ b := fun b hb => by
    show (if hx : q b then _ else _) = _
    rw [dif_neg (fun hx => by have := hq b hx; omega), if_neg (by omega)]
  have hfld : ∀ {i : Nat}, i < 16 → 0 < lenF E i → datF { T.put 16 a' w.heap.size c' with lA := A', lb := B', lc := C' } E D i = datF T E D i := fun {i} hi hl => by
    funext j
    unfold datF Ad.put
    split <;> first | rfl | omega
  refine ⟨τ', ⟨hbel, fun b hb => ?_, fun b hb' => ?_, fun i hi hl => ?_, fun hm c hc' hl => ?_, fun hm l hl hll => ?_⟩, hlow⟩
  · rw [hlow b (by have := h.bel.size; omega)]; exact h.z0 b hb
  · show (if hx : q b then _ else _) = _
    rw [dif_neg (fun hx => by have := hq b hx; omega)]
    rw [if_neg]
    · exact h.z1 b (by have := hb.size; omega)
    · rintro ⟨e, hn⟩
      rcases hor with ⟨_, h0, _⟩ | ⟨_, _, harr⟩
      · omega
      · have := harr.lt; omega
  · by_cases e : i = 16
    · subst e
      rcases hor with ⟨_, h0, _⟩ | ⟨ha, hcn, harr⟩
      · exact absurd hl (by show ¬ 0 < E.nl; omega)
      · refine ⟨?_, ?_, ?_⟩
        · simp only [Ad.put, upd_self]; exact ha
        · simp only [Ad.put, upd_self]
          show (if hx : q w.heap.size then _ else _) = _
          rw [dif_neg (fun hx => by have := hq _ hx; omega), if_pos ⟨rfl, hl⟩]
        · simp only [Ad.put, upd_self]; exact harr
    · obtain ⟨h1, h2, h3⟩ := h.row i (by omega) hl
      rw [hfld (by omega) hl]
      simp only [Ad.put, upd_ne _ _ e]
      refine ⟨h1, ?_, h3.below hb h3.lt⟩
      rw [hlow _ h3.lt]; exact h2
  · obtain ⟨h1, h2, h3⟩ := h.chn (by omega) c hc' hl
    refine ⟨h1, ?_, h3.below hb h3.lt⟩
    show τ' (T.cb c) = 1
    rw [hlow _ h3.lt]; exact h2
  · obtain ⟨h1, h2, h3, h4⟩ := hc.at_ l hl hll
    refine ⟨h1, ?_, h4⟩
    have hx : q (B' l) := ⟨l, hl, hll, rfl⟩
    show (if hx : q (B' l) then _ else _) = _
    rw [dif_pos hx]
    have hs := hx.choose_spec
    have : hx.choose = l := Classical.byContradiction fun hne => hc.inj _ _ hs.1 hl hs.2.1 hll hne hs.2.2
    rw [this]
theorem Cpy.tn (h : Cpy w0 w m τ T E D) (hm : 17 ≤ m) : Tn τ w T E D :=
  ⟨fun i hi => h.row i (by have := lenF_pos hi; omega) hi, h.chn (by omega), h.lvl (by omega)⟩
end
end Go.Proofs.Qxb6616080a
