/- THE SEARCH THAT IS WRITTEN TO: rows of its own, told apart by tags. -/
import Derived.Test.Qxb6616080aGd
import Derived.Test.Qxb6616080aMem
namespace Go.Proofs.Qxb6616080a
open Go.RowKit
set_option linter.unusedVariables false
set_option linter.unusedSimpArgs false

def lenF (E : Env) : Nat → Nat
  | 1 | 2 | 13 | 14 | 15 => E.nc
  | 4 | 6 | 7 | 10 => E.n
  | 5 | 8 | 9 | 11 | 12 => E.nv
  | 16 => E.nl
  | _ => 0
def tyF : Nat → TypeId
  | 1 => 26
  | 2 | 9 => 3
  | 4 | 7 | 10 => 4
  | 16 => 44
  | _ => 21
def datF (T : Ad) (E : Env) (D : Dyn) : Nat → Nat → Value
  | 1, j => .slice (T.cA j) (E.cl j) (T.cc j)
  | 2, j => .int .i64 (D.next j)
  | 4, j => .bool (D.placed j)
  | 5, j => .int .i32 (D.current j)
  | 6, j => .int .i32 (D.awaiting j)
  | 7, j => .bool (E.awaited j)
  | 8, j => .int .i32 (D.holders j)
  | 9, j => .int .i64 (D.holderSum j)
  | 10, j => .bool (E.lastWrite j)
  | 11, j => .int .i32 (D.initial j)
  | 12, j => .int .i32 (D.K.first j)
  | 13, j => .int .i32 (D.K.nx j)
  | 14, j => .int .i32 (D.K.pv j)
  | 15, j => .int .i32 (D.K.of j)
  | 16, j => .slice (T.lA j) (E.ll j) (T.lc j)
  | _, _ => undef

/-- The rows of the copy: each its own, by its tag. -/
structure Tn (τ : Nat → Nat) (w : World) (T : Ad) (E : Env) (D : Dyn) : Prop where
  row : ∀ i, 0 < lenF E i → T.A i = some ⟨T.b i, 0, none⟩ ∧ τ (T.b i) = i ∧ Arr w (T.b i) (lenF E i) (tyF i) (datF T E D i)
  chn : ∀ c, c < E.nc → 0 < E.cl c → T.cA c = some ⟨T.cb c, 0, none⟩ ∧ τ (T.cb c) = 1 ∧ Arr w (T.cb c) (E.cl c) 21 (fun k => .int .i32 (E.ch c k))
  lvl : ∀ l, l < E.nl → 0 < E.ll l → T.lA l = some ⟨T.lb l, 0, none⟩ ∧ τ (T.lb l) = 100 + l ∧ Arr w (T.lb l) (E.ll l) 28 (fun i => .int .u64 (D.lw l i : Nat))

/-- A block of another tag written. -/
theorem Tn.other {τ : Nat → Nat} {w w' : World} {T : Ad} {E : Env} {D : Dyn} (h : Tn τ w T E D) {g : Nat} (hg : ∀ b, b ≠ g → b < w.heap.size → w'.heap[b]? = w.heap[b]?) (hτ : τ g = 0 ∨ 20 < τ g ∧ τ g < 100) : Tn τ w' T E D := by
  refine ⟨fun i hi => ?_, fun c hc hl => ?_, fun l hl hll => ?_⟩
  · obtain ⟨h1, h2, h3⟩ := h.row i hi
    refine ⟨h1, h2, h3.of_block (hg _ (fun e => ?_) h3.lt)⟩
    have hi17 : 1 ≤ i ∧ i ≤ 16 := by
      unfold lenF at hi
      split at hi <;> omega
    rw [e] at h2; omega
  · obtain ⟨h1, h2, h3⟩ := h.chn c hc hl
    refine ⟨h1, h2, h3.of_block (hg _ (fun e => ?_) h3.lt)⟩
    rw [e] at h2; omega
  · obtain ⟨h1, h2, h3⟩ := h.lvl l hl hll
    refine ⟨h1, h2, h3.of_block (hg _ (fun e => ?_) h3.lt)⟩
    rw [e] at h2; omega

/-- A place of field i written. -/
theorem Tn.set {τ : Nat → Nat} {w : World} {T : Ad} {E : Env} {D D' : Dyn} (h : Tn τ w T E D) {i j : Nat} {u : Value} (hi2 : 2 ≤ i) (hi : i ≤ 15) (hj : j < lenF E i) (hlw : D'.lw = D.lw)
    (hd : ∀ i' j', datF T E D' i' j' = if i' = i ∧ j' = j then u else datF T E D i' j') : Tn τ (w.setCell ⟨T.b i, j, none⟩ u) T E D' := by
  obtain ⟨_, hτ, _⟩ := h.row i (Nat.zero_lt_of_lt hj)
  refine ⟨fun i' hi' => ?_, fun c hc hl => ?_, fun l hl hll => ?_⟩
  · obtain ⟨h1, h2, h3⟩ := h.row i' hi'
    refine ⟨h1, h2, ?_⟩
    by_cases e : i' = i
    · subst e
      refine (h3.set hj u).congr (fun k hk => ?_)
      rw [hd]
      unfold fset
      by_cases e : k = j
      · subst e; simp
      · simp [e]
    · refine (h3.far (p := ⟨T.b i, j, none⟩) (by show T.b i' ≠ T.b i; intro e2; rw [e2] at h2; omega) u).congr (fun k hk => ?_)
      rw [hd, if_neg (fun h => e h.1)]
  · obtain ⟨h1, h2, h3⟩ := h.chn c hc hl
    exact ⟨h1, h2, h3.far (p := ⟨T.b i, j, none⟩) (by show T.cb c ≠ T.b i; intro e2; rw [e2] at h2; omega) u⟩
  · obtain ⟨h1, h2, h3⟩ := h.lvl l hl hll
    rw [hlw]
    exact ⟨h1, h2, h3.far (p := ⟨T.b i, j, none⟩) (by show T.lb l ≠ T.b i; intro e2; rw [e2] at h2; omega) u⟩
/-- A word of level l written. -/
theorem Tn.setL {τ : Nat → Nat} {w : World} {T : Ad} {E : Env} {D : Dyn} (h : Tn τ w T E D) {l j x : Nat} (hl : l < E.nl) (hj : j < E.ll l) : Tn τ (w.setCell ⟨T.lb l, j, none⟩ (.int .u64 (x : Nat))) T E { D with lw := upd2 D.lw l j x } := by
  obtain ⟨_, hτ, _⟩ := h.lvl l hl (Nat.zero_lt_of_lt hj)
  refine ⟨fun i' hi' => ?_, fun c hc hcl => ?_, fun l' hl' hll => ?_⟩
  · obtain ⟨h1, h2, h3⟩ := h.row i' hi'
    have hi17 : i' ≤ 16 := by
      unfold lenF at hi'
      split at hi' <;> omega
    have e : datF T E { D with lw := upd2 D.lw l j x } i' = datF T E D i' := by
      funext k
      unfold datF
      split <;> rfl
    rw [e]
    exact ⟨h1, h2, h3.far (p := ⟨T.lb l, j, none⟩) (by show T.b i' ≠ T.lb l; intro e2; rw [e2] at h2; omega) _⟩
  · obtain ⟨h1, h2, h3⟩ := h.chn c hc hcl
    exact ⟨h1, h2, h3.far (p := ⟨T.lb l, j, none⟩) (by show T.cb c ≠ T.lb l; intro e2; rw [e2] at h2; omega) _⟩
  · obtain ⟨h1, h2, h3⟩ := h.lvl l' hl' hll
    refine ⟨h1, h2, ?_⟩
    by_cases e : l' = l
    · subst e
      refine (h3.set hj _).congr (fun k hk => ?_)
      unfold fset upd2
      by_cases e : k = j
      · subst e; simp
      · simp [e]
    · refine (h3.far (p := ⟨T.lb l, j, none⟩) (by show T.lb l' ≠ T.lb l; intro e2; rw [e2] at h2; omega) _).congr (fun k hk => ?_)
      simp [upd2, e]
/-- Reading the copy. -/
theorem Tn.below {τ : Nat → Nat} {w w' : World} {T : Ad} {E : Env} {D : Dyn} (h : Tn τ w T E D) (hb : Below w.heap.size w w') : Tn τ w' T E D :=
  ⟨fun i hi => by obtain ⟨h1, h2, h3⟩ := h.row i hi; exact ⟨h1, h2, h3.below hb h3.lt⟩, fun c hc hl => by obtain ⟨h1, h2, h3⟩ := h.chn c hc hl; exact ⟨h1, h2, h3.below hb h3.lt⟩, fun l hl hll => by obtain ⟨h1, h2, h3⟩ := h.lvl l hl hll; exact ⟨h1, h2, h3.below hb h3.lt⟩⟩
end Go.Proofs.Qxb6616080a
