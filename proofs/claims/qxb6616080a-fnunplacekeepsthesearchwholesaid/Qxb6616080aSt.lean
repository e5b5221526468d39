/- THE SEARCH UNDER WAY: the state between two calls of 'ZZunplace'. -/
import Derived.Test.Qxb6616080aIn
namespace Go.Proofs.Qxb6616080a
open Go.RowKit
set_option linter.unusedVariables false
set_option linter.unusedSimpArgs false

structure Inv (τ : Nat → Nat) (w7 w' : World) (X H : Nat) (T2 : Ad) (E : Env) (D' : Dyn) : Prop where
  tn : Tn τ w' T2 E D'
  sx : Sx τ w' X H T2 E D'.toPlace D'.hash
  ho : Holds E D' zmix
  sz : Sz E D'
  kr : Kr E D'.K
  fx : Fx (fun t => t ≠ 0) τ w7 w'
  z1 : ∀ b, w7.heap.size ≤ b → τ b = 0

section
variable {τ : Nat → Nat} {w7 w' : World} {X H : Nat} {T2 : Ad} {E : Env} {D' : Dyn}
theorem Inv.step (h : Inv τ w7 w' X H T2 E D') {c : Nat} {p : Int} (hc : c < E.nc) (h1 : 1 ≤ D'.next c) (hp : E.wr (E.op c (D'.next c - 1).toNat) = true → -1 ≤ p ∧ p < 4096)
    (hpw : E.wr (E.op c (D'.next c - 1).toNat) = true → p = -1 ∨ ((0 ≤ p ∧ p < E.n) ∧ p ≠ (E.op c (D'.next c - 1).toNat : Int) ∧ E.wr p.toNat = true ∧ E.vv p.toNat = E.vv (E.op c (D'.next c - 1).toNat) ∧ D'.placed p.toNat = true)) :
    Calls Try.prog 12 #[.pointer (some ⟨X, 0, none⟩), .int .i64 (c : Nat), .int .i32 p] w' fun e w'' => e = .returned (.tuple #[]) ∧ Inv τ w7 w'' X H T2 E (unplace E D' zmix c p) := by
  refine (f12_to h.tn h.sx (fun b hb => h.z1 b (Nat.le_trans h.fx.size hb)) h.ho h.sz hc h1 hp).mono ?_
  rintro e w'' ⟨rfl, h2, h3, h4, h5⟩
  exact ⟨rfl, h2, h3, h.ho.unplaced hc h1 hpw, h5, h.kr.unplace h.ho hc h.sz.nc h1 p, h.fx.trans h4, h.z1⟩
/-- A block of no tag. -/
theorem Inv.block (h : Inv τ w7 w' X H T2 E D') {b : Nat} (hb : b < w7.heap.size) (ht : τ b = 0) : w'.heap[b]? = w7.heap[b]? := h.fx.block b hb (fun hn => hn ht)
theorem Inv.same (h : Inv τ w7 w' X H T2 E D') {w'' : World} (hs : Same w' w'') : Inv τ w7 w'' X H T2 E D' :=
  ⟨h.tn.fx (hs.fx (fun _ => False)) (fun t h => h.elim), h.sx.fx (hs.fx (fun _ => False)) (fun h => h) (fun h => h) (fun h => h), h.ho, h.sz, h.kr, h.fx.trans (hs.fx _), h.z1⟩
end

theorem Tn.ops {τ : Nat → Nat} {w : World} {T : Ad} {E : Env} {D : Dyn} (h : Tn τ w T E D) (a : Option Addr) (b o c : Nat) : Tn τ w { T with oA := a, ob := b, oo := o, oc := c } E D := by
  have e : datF { T with oA := a, ob := b, oo := o, oc := c } E D = datF T E D := by
    funext i j
    unfold datF
    split <;> rfl
  exact ⟨by rw [e]; exact h.row, h.chn, h.lvl⟩
theorem Tn.tau {τ τ' : Nat → Nat} {w : World} {T : Ad} {E : Env} {D : Dyn} (h : Tn τ w T E D) (ht : ∀ b, b < w.heap.size → τ' b = τ b) : Tn τ' w T E D :=
  ⟨fun i hi => by obtain ⟨h1, h2, h3⟩ := h.row i hi; exact ⟨h1, by rw [ht _ h3.lt]; exact h2, h3⟩, fun c hc hl => by obtain ⟨h1, h2, h3⟩ := h.chn c hc hl; exact ⟨h1, by rw [ht _ h3.lt]; exact h2, h3⟩, fun l hl hll => by obtain ⟨h1, h2, h3⟩ := h.lvl l hl hll; exact ⟨h1, by rw [ht _ h3.lt]; exact h2, h3⟩⟩
theorem XV.ops {T : Ad} {E : Env} {H : Nat} {tp : Int} {hh : Nat} {v : Nat → Value} (h : XV T E H tp hh v) (a : Option Addr) (b o c : Nat) : XV { T with oA := a, ob := b, oo := o, oc := c } E H tp hh v :=
  ⟨h.v0, h.v1, h.v2, h.v4, h.v5, h.v6, h.v8, h.v9, h.v10, h.v15, h.v16, h.v17, h.v18, h.v21, h.v22, h.v23, h.v24, h.v25, h.v27, h.v28⟩

/-- The search is made. -/
theorem Inv.start {τ : Nat → Nat} {w5 w6 w7 : World} {H b c : Nat} {a : Option Addr} {T1 : Ad} {E : Env} {D : Dyn} {v : Nat → Value} (hT : Tn τ w5 T1 E D) (z1 : ∀ b, w5.heap.size ≤ b → τ b = 0) (hb6 : Below w5.heap.size w5 w6) (hH0 : w5.heap.size ≤ H) (hH1 : H < w6.heap.size)
    (hHc : w6.cell? ⟨H, 2, none⟩ = some (.slice a E.n c)) (hon : 0 < E.n → a = some ⟨b, 0, none⟩ ∧ w5.heap.size ≤ b ∧ b < w6.heap.size ∧ b ≠ H)
    (hops : ∀ i, i < E.n → w6.cell? ⟨b, i * 6, none⟩ = some (.int .i32 (E.proc i)) ∧ w6.cell? ⟨b, i * 6 + 2, none⟩ = some (.bool (E.wr i)) ∧ w6.cell? ⟨b, i * 6 + 3, none⟩ = some (.int .i32 (E.vv i)) ∧ w6.cell? ⟨b, i * 6 + 5, none⟩ = some (.int .i32 (E.src i)))
    (hb7 : Below w6.heap.size w6 w7) (hs7 : w7.heap.size = w6.heap.size + 1) (hX : Arr w7 w6.heap.size 35 61 v) (hXV : XV T1 E H D.toPlace D.hash v) (hho : Holds E D zmix) (hsz : Sz E D) (hkr : Kr E D.K) :
    ∃ τ2, Inv τ2 w7 w7 w6.heap.size H { T1 with oA := a, ob := b, oo := 0, oc := c } E D ∧ ∀ k, k < w5.heap.size → τ2 k = τ k := by
  have hsz6 := hb6.size
  refine ⟨fun k => if k = w6.heap.size then 50 else if k = H then 51 else if k = b ∧ 0 < E.n then 52 else τ k, ?_, ?_⟩
  · have h57 : Below w5.heap.size w5 w7 := hb6.trans (hb7.mono hsz6)
    have hlow : ∀ k, k < w5.heap.size → (fun k => if k = w6.heap.size then 50 else if k = H then 51 else if k = b ∧ 0 < E.n then 52 else τ k) k = τ k := fun k hk => by
      show (if _ then _ else _) = _
      rw [if_neg (by omega), if_neg (by omega), if_neg (fun h => by have := hon h.2; omega)]
    have hx : ∀ {ad : Addr} {u : Value}, w6.cell? ad = some u → w7.cell? ad = some u := fun {ad u} hc => (hb7.cell (World.block_lt_of_cell? w6 ad hc)).trans hc
    refine ⟨((hT.tau hlow).below h57).ops a b 0 c, { tx := ?_, th := ?_, xr := ⟨v, hX, hXV.ops a b 0 c⟩, hc := hx hHc, on := fun h0 => ⟨(hon h0).1, ?_⟩, o0 := fun i hi => hx (hops i hi).1, o2 := fun i hi => hx (hops i hi).2.1, o3 := fun i hi => hx (hops i hi).2.2.1, o5 := fun i hi => hx (hops i hi).2.2.2 }, hho, hsz, hkr, Fx.refl _ _ _, fun k hk => ?_⟩
    · exact if_pos rfl
    · show (if _ then _ else _) = _
      rw [if_neg (by omega), if_pos rfl]
    · show (if b = w6.heap.size then 50 else if b = H then 51 else if b = b ∧ 0 < E.n then 52 else τ b) = 52
      have := hon h0
      rw [if_neg (by omega), if_neg this.2.2.2, if_pos ⟨rfl, h0⟩]
    · show (if _ then _ else _) = _
      rw [if_neg (by omega), if_neg (by omega), if_neg (fun h => by have := hon h.2; omega)]
      exact z1 k (by omega)
  · intro k hk
    show (if _ then _ else _) = _
    rw [if_neg (by omega), if_neg (by omega), if_neg (fun h => by have := hon h.2; omega)]
end Go.Proofs.Qxb6616080a
