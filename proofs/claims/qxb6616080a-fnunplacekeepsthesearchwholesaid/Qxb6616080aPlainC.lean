/- THE PLAIN MODEL of the search's state, and the law: 'unplace' keeps every index whole ('Holds.unplaced'). No Go in sight. -/
import Derived.Test.Qxb6616080aPlainB
namespace Go.Proofs.Qxb6616080a
set_option linter.unusedVariables false

/-- What no step changes. -/
structure Env where
  n : Nat
  nc : Nat
  nv : Nat
  proc : Nat → Int
  wr : Nat → Bool
  vv : Nat → Int
  src : Nat → Int
  only : Int
  cl : Nat → Nat
  ch : Nat → Nat → Int
  seed : Nat
  nl : Nat
  ll : Nat → Nat
  awaited : Nat → Bool
  lastWrite : Nat → Bool

structure Dyn where
  next : Nat → Int
  toPlace : Int
  placed : Nat → Bool
  current : Nat → Int
  awaiting : Nat → Int
  holders : Nat → Int
  holderSum : Nat → Int
  initial : Nat → Int
  K : Links
  lw : Nat → Nat → Nat
  hash : Nat

variable (E : Env) (D : Dyn) (mix : Nat → Nat)

def Env.has (i : Nat) : Bool := (List.range E.nc).any fun c => (List.range (E.cl c)).any fun k => E.ch c k == (i : Int)
theorem Env.has_iff {i : Nat} : E.has i = true ↔ ∃ c k, c < E.nc ∧ k < E.cl c ∧ E.ch c k = (i : Int) := by
  simp [Env.has]
def Env.chk (i : Nat) : Bool := !E.wr i && (decide (E.only < 0) || decide (E.proc i = E.only))
/-- A checked read of a chain. -/
def Env.rd (i : Nat) : Bool := E.has i && E.chk i
/-- The operation at place k of chain c. -/
def Env.op (c k : Nat) : Nat := (E.ch c k).toNat
/-- Chain c has a write of v among its operations from place a on. -/
def Env.hold (a : Int) (v c : Nat) : Bool := (List.range (E.cl c)).any fun k => decide (a ≤ (k : Int)) && E.wr (E.op c k) && decide (E.vv (E.op c k) = (v : Int))
theorem Env.hold_iff {a : Int} {v c : Nat} : E.hold a v c = true ↔ ∃ k : Nat, k < E.cl c ∧ a ≤ (k : Int) ∧ E.wr (E.op c k) = true ∧ E.vv (E.op c k) = (v : Int) := by
  simp [Env.hold, and_assoc]
/-- Is chain c, its head at k, to be chosen; of which variable's unread list. -/
def Env.chosen (c : Nat) (k : Int) : Bool := decide (k < (E.cl c : Int)) && E.wr (E.op c k.toNat) && E.awaited (E.op c k.toNat)
def Env.unreadOf (c : Nat) (k : Int) : Int := if k < (E.cl c : Int) ∧ E.wr (E.op c k.toNat) = true ∧ E.awaited (E.op c k.toNat) = false then E.vv (E.op c k.toNat) else -1

/-- The part of the hash that says: v holds w. -/
def holdNum (v : Nat) (w : Int) : Nat := ((w + 1).toNat ||| 9223372036854775808) ||| (v * 4294967296)
def hPlaced (seed : Nat) (placed : Nat → Bool) (i : Nat) : Nat := if placed i then mix ((i + 1 + seed) % 2 ^ 64) else 0
def hCur (seed : Nat) (current : Nat → Int) (v : Nat) : Nat := if current v = -1 then 0 else mix ((holdNum v (current v) + seed) % 2 ^ 64) ^^^ mix ((holdNum v (-1) + seed) % 2 ^ 64)
def hashOf (n nv seed : Nat) (placed : Nat → Bool) (current : Nat → Int) : Nat := xorOf n (hPlaced mix seed placed) ^^^ xorOf nv (hCur mix seed current)

structure Holds : Prop where
  vs : ∀ i, i < E.n → 0 ≤ E.vv i ∧ E.vv i < E.nv
  nx : ∀ c, c < E.nc → 0 ≤ D.next c ∧ D.next c ≤ E.cl c
  chr : ∀ c, c < E.nc → ∀ k, k < E.cl c → 0 ≤ E.ch c k ∧ E.ch c k < E.n
  inj : ∀ c k c' k', c < E.nc → k < E.cl c → c' < E.nc → k' < E.cl c' → E.ch c k = E.ch c' k' → c = c' ∧ k = k'
  tp : D.toPlace = tot E.nc (fun c => (E.cl c : Int) - D.next c)
  pl : ∀ i, i < E.n → (D.placed i = true ↔ ∃ c k : Nat, c < E.nc ∧ k < E.cl c ∧ E.ch c k = (i : Int) ∧ (k : Int) < D.next c)
  sr : ∀ i, i < E.n → E.rd i = true → E.src i ≠ -1 → (0 ≤ E.src i ∧ E.src i < E.n) ∧ E.wr (E.src i).toNat = true ∧ E.vv (E.src i).toNat = E.vv i
  aw : ∀ i, i < E.n → D.awaiting i = (cnt E.n (fun j => E.rd j && decide (E.src j = (i : Int)) && !D.placed j) : Nat)
  ad : ∀ i, i < E.n → (E.awaited i = true ↔ ∃ j, j < E.n ∧ E.rd j = true ∧ E.src j = (i : Int))
  ini : ∀ v, v < E.nv → D.initial v = (cnt E.n (fun j => E.rd j && decide (E.src j = -1) && decide (E.vv j = (v : Int)) && !D.placed j) : Nat)
  lst : ∀ c, c < E.nc → ∀ k, k < E.cl c → E.wr (E.op c k) = true → (E.lastWrite (E.op c k) = true ↔ ∀ j, k < j → j < E.cl c → E.wr (E.op c j) = true → E.vv (E.op c j) ≠ E.vv (E.op c k))
  ho : ∀ v, v < E.nv → D.holders v = (cnt E.nc (fun c => E.hold (D.next c) v c) : Nat)
  hs : ∀ v, v < E.nv → D.holderSum v = (sumIf E.nc (fun c => E.hold (D.next c) v c) : Nat)
  cu : ∀ v, v < E.nv → D.current v ≠ -1 → (0 ≤ D.current v ∧ D.current v < E.n) ∧ E.wr (D.current v).toNat = true ∧ E.vv (D.current v).toNat = (v : Int) ∧ D.placed (D.current v).toNat = true
  uo : ∀ c, c < E.nc → D.K.of c = E.unreadOf c (D.next c)
  ul : ListsOk E.nc E.nv D.K.first D.K.nx D.K.pv D.K.of
  lv : 0 < E.nl ∧ LevOk E.ll E.nl 0 E.nc (fun c => E.chosen c (D.next c)) D.lw
  ha : D.hash = hashOf mix E.n E.nv E.seed D.placed D.current

/-- 'moveHead'. -/
def moveHead (c : Nat) (k : Int) : Dyn :=
  { D with next := upd D.next c k, lw := setLv (E.chosen c k) E.nl 0 c D.lw, K := moveTo D.K c (E.unreadOf c k) }
/-- 'setCurrent'. -/
def setCurrent (v : Nat) (w : Int) : Dyn :=
  { D with current := upd D.current v w, hash := (D.hash ^^^ mix ((holdNum v (D.current v) + E.seed) % 2 ^ 64)) ^^^ mix ((holdNum v w + E.seed) % 2 ^ 64) }
/-- The rest for a write. -/
def backWrite (c i : Nat) (p : Int) : Dyn :=
  setCurrent E (if E.lastWrite i then { D with holders := upd D.holders (E.vv i).toNat (D.holders (E.vv i).toNat + 1), holderSum := upd D.holderSum (E.vv i).toNat (D.holderSum (E.vv i).toNat + c) } else D) mix (E.vv i).toNat p
def backRead (i : Nat) : Dyn :=
  if E.chk i then
    if E.src i = -1 then { D with initial := upd D.initial (E.vv i).toNat (D.initial (E.vv i).toNat + 1) }
    else { D with awaiting := upd D.awaiting (E.src i).toNat (D.awaiting (E.src i).toNat + 1) }
  else D
/-- 'unplace'. -/
def unplace (c : Nat) (p : Int) : Dyn :=
  let i := E.op c (D.next c - 1).toNat
  let D1 := moveHead E D c (D.next c - 1)
  let D2 : Dyn := { D1 with placed := upd D1.placed i false, toPlace := D1.toPlace + 1, hash := D1.hash ^^^ mix ((i + 1 + E.seed) % 2 ^ 64) }
  if E.wr i then backWrite E D2 mix c i p else backRead E D2 i

variable {E D mix}

theorem backWrite_fields (c i : Nat) (p : Int) (D : Dyn) :
    backWrite E D mix c i p = { D with
      holders := if E.lastWrite i then upd D.holders (E.vv i).toNat (D.holders (E.vv i).toNat + 1) else D.holders,
      holderSum := if E.lastWrite i then upd D.holderSum (E.vv i).toNat (D.holderSum (E.vv i).toNat + c) else D.holderSum,
      current := upd D.current (E.vv i).toNat p,
      hash := (D.hash ^^^ mix ((holdNum (E.vv i).toNat (D.current (E.vv i).toNat) + E.seed) % 2 ^ 64)) ^^^ mix ((holdNum (E.vv i).toNat p + E.seed) % 2 ^ 64) } := by
  unfold backWrite setCurrent
  by_cases h : E.lastWrite i = true <;> simp [h]
theorem backRead_fields (i : Nat) (D : Dyn) :
    backRead E D i = { D with
      initial := if E.chk i = true ∧ E.src i = -1 then upd D.initial (E.vv i).toNat (D.initial (E.vv i).toNat + 1) else D.initial,
      awaiting := if E.chk i = true ∧ E.src i ≠ -1 then upd D.awaiting (E.src i).toNat (D.awaiting (E.src i).toNat + 1) else D.awaiting } := by
  unfold backRead
  by_cases h : E.chk i = true
  · by_cases h2 : E.src i = -1 <;> simp [h, h2]
  · simp [h]

theorem hCur_eq (seed : Nat) (current : Nat → Int) (v : Nat) : hCur mix seed current v = mix ((holdNum v (current v) + seed) % 2 ^ 64) ^^^ mix ((holdNum v (-1) + seed) % 2 ^ 64) := by
  unfold hCur
  split
  next h => rw [h, Nat.xor_self]
  · rfl

theorem xor_law (P C a b c z : Nat) : ((P ^^^ C) ^^^ a ^^^ b) ^^^ c = (P ^^^ a) ^^^ (C ^^^ ((b ^^^ z) ^^^ (c ^^^ z))) := by
  apply Nat.eq_of_testBit_eq
  intro i
  simp only [Nat.testBit_xor]
  cases P.testBit i <;> cases C.testBit i <;> cases a.testBit i <;> cases b.testBit i <;> cases c.testBit i <;> cases z.testBit i <;> rfl
theorem xor_law2 (P C a : Nat) : (P ^^^ C) ^^^ a = (P ^^^ a) ^^^ C := by
  rw [Nat.xor_assoc, Nat.xor_comm C a, Nat.xor_assoc]

theorem Holds.opAt (h : Holds E D mix) {c k : Nat} (hc : c < E.nc) (hk : k < E.cl c) : E.ch c k = (E.op c k : Int) ∧ E.op c k < E.n := by
  have := h.chr c hc k hk
  unfold Env.op
  omega

theorem Holds.unplaced (h : Holds E D mix) {c0 : Nat} (hc : c0 < E.nc) (h1 : 1 ≤ D.next c0) {p : Int}
    (hp : E.wr (E.op c0 (D.next c0 - 1).toNat) = true → p = -1 ∨ ((0 ≤ p ∧ p < E.n) ∧ p ≠ (E.op c0 (D.next c0 - 1).toNat : Int) ∧ E.wr p.toNat = true ∧ E.vv p.toNat = E.vv (E.op c0 (D.next c0 - 1).toNat) ∧ D.placed p.toNat = true)) :
    Holds E (unplace E D mix c0 p) mix := by
  obtain ⟨k0, hk0⟩ : ∃ k0 : Nat, D.next c0 - 1 = k0 := ⟨(D.next c0 - 1).toNat, by omega⟩
  have hnx := h.nx c0 hc
  have hkl : k0 < E.cl c0 := by omega
  obtain ⟨i0, hi0⟩ : ∃ i0, E.op c0 k0 = i0 := ⟨_, rfl⟩
  have hop := h.opAt hc hkl
  rw [hi0] at hop
  obtain ⟨hch, hin⟩ := hop
  simp only [hk0, Int.toNat_natCast, hi0] at hp
  have hv := h.vs i0 hin
  obtain ⟨v0, hv0⟩ := Int.eq_ofNat_of_zero_le hv.1
  have hvn : v0 < E.nv := by omega
  -- the new state, field by field
  obtain ⟨D', hD'⟩ : ∃ D', unplace E D mix c0 p = D' := ⟨_, rfl⟩
  have e_next : D'.next = upd D.next c0 k0 := by
    rw [← hD']; unfold unplace; simp only [hk0, Int.toNat_natCast, hi0, moveHead]; split
    · rw [backWrite_fields]
    · rw [backRead_fields]
  have e_tp : D'.toPlace = D.toPlace + 1 := by
    rw [← hD']; unfold unplace; simp only [hk0, Int.toNat_natCast, hi0, moveHead]; split
    · rw [backWrite_fields]
    · rw [backRead_fields]
  have e_pl : D'.placed = upd D.placed i0 false := by
    rw [← hD']; unfold unplace; simp only [hk0, Int.toNat_natCast, hi0, moveHead]; split
    · rw [backWrite_fields]
    · rw [backRead_fields]
  have e_K : D'.K = moveTo D.K c0 (E.unreadOf c0 k0) := by
    rw [← hD']; unfold unplace; simp only [hk0, Int.toNat_natCast, hi0, moveHead]; split
    · rw [backWrite_fields]
    · rw [backRead_fields]
  have e_lw : D'.lw = setLv (E.chosen c0 k0) E.nl 0 c0 D.lw := by
    rw [← hD']; unfold unplace; simp only [hk0, Int.toNat_natCast, hi0, moveHead]; split
    · rw [backWrite_fields]
    · rw [backRead_fields]
  have e_cu : D'.current = if E.wr i0 then upd D.current v0 p else D.current := by
    rw [← hD']; unfold unplace; simp only [hk0, Int.toNat_natCast, hi0, moveHead]; split
    · rw [backWrite_fields]; simp [hv0]
    · rw [backRead_fields]
  have e_aw : D'.awaiting = if E.wr i0 = false ∧ E.chk i0 = true ∧ E.src i0 ≠ -1 then upd D.awaiting (E.src i0).toNat (D.awaiting (E.src i0).toNat + 1) else D.awaiting := by
    rw [← hD']; unfold unplace; simp only [hk0, Int.toNat_natCast, hi0, moveHead]; split
    next hw => rw [backWrite_fields]; simp [hw]
    next hw => rw [backRead_fields]; simp [hw]
  have e_in : D'.initial = if E.wr i0 = false ∧ E.chk i0 = true ∧ E.src i0 = -1 then upd D.initial v0 (D.initial v0 + 1) else D.initial := by
    rw [← hD']; unfold unplace; simp only [hk0, Int.toNat_natCast, hi0, moveHead]; split
    next hw => rw [backWrite_fields]; simp [hw]
    next hw => rw [backRead_fields]; simp [hw, hv0]
  have e_ho : D'.holders = if E.wr i0 = true ∧ E.lastWrite i0 = true then upd D.holders v0 (D.holders v0 + 1) else D.holders := by
    rw [← hD']; unfold unplace; simp only [hk0, Int.toNat_natCast, hi0, moveHead]; split
    next hw => rw [backWrite_fields]; simp [hw, hv0]
    next hw => rw [backRead_fields]; simp [hw]
  have e_hs : D'.holderSum = if E.wr i0 = true ∧ E.lastWrite i0 = true then upd D.holderSum v0 (D.holderSum v0 + c0) else D.holderSum := by
    rw [← hD']; unfold unplace; simp only [hk0, Int.toNat_natCast, hi0, moveHead]; split
    next hw => rw [backWrite_fields]; simp [hw, hv0]
    next hw => rw [backRead_fields]; simp [hw]
  have e_ha : D'.hash = if E.wr i0 then ((D.hash ^^^ mix ((i0 + 1 + E.seed) % 2 ^ 64)) ^^^ mix ((holdNum v0 (D.current v0) + E.seed) % 2 ^ 64)) ^^^ mix ((holdNum v0 p + E.seed) % 2 ^ 64) else D.hash ^^^ mix ((i0 + 1 + E.seed) % 2 ^ 64) := by
    rw [← hD']; unfold unplace; simp only [hk0, Int.toNat_natCast, hi0, moveHead]; split
    next hw => rw [backWrite_fields]; simp [hv0]
    next hw => rw [backRead_fields]
  rw [hD']
  clear hD'
  have hhas : E.has i0 = true := E.has_iff.2 ⟨c0, k0, hc, hkl, hch⟩
  have hpl0 : D.placed i0 = true := (h.pl i0 hin).2 ⟨c0, k0, hc, hkl, hch, by omega⟩
  -- placed: only i0 turns
  have plq : ∀ i, i < E.n → (D'.placed i = true ↔ D.placed i = true ∧ i ≠ i0) := by
    intro i hi
    rw [e_pl]
    by_cases e : i = i0
    · subst e; simp [upd_self]
    · rw [upd_ne _ _ e]; simp [e]
  have pln : ∀ i, i ≠ i0 → D'.placed i = D.placed i := fun i e => by rw [e_pl, upd_ne _ _ e]
  have pl0 : D'.placed i0 = false := by rw [e_pl, upd_self]
  -- the holders
  have hne_c : ∀ v c, c ≠ c0 → E.hold (D'.next c) v c = E.hold (D.next c) v c := fun v c e => by rw [e_next, upd_ne _ _ e]
  have hold0 : ∀ v, E.hold (D'.next c0) v c0 = true ↔ E.hold (D.next c0) v c0 = true ∨ (E.wr i0 = true ∧ v = v0) := by
    intro v
    rw [e_next, upd_self, E.hold_iff, E.hold_iff]
    constructor
    · rintro ⟨k, a1, a2, a3, a4⟩
      by_cases e : k = k0
      · subst e; rw [hi0] at a3 a4; exact .inr ⟨a3, by omega⟩
      · exact .inl ⟨k, a1, by omega, a3, a4⟩
    · rintro (⟨k, a1, a2, a3, a4⟩ | ⟨a1, a2⟩)
      · exact ⟨k, a1, by omega, a3, a4⟩
      · exact ⟨k0, hkl, Int.le_refl _, by rw [hi0]; exact a1, by rw [hi0, a2]; exact hv0⟩
  have holdSame : ∀ v, ¬ (E.wr i0 = true ∧ E.lastWrite i0 = true ∧ v = v0) → ∀ c, E.hold (D'.next c) v c = E.hold (D.next c) v c := by
    intro v hn c
    by_cases e : c = c0
    · subst e
      rw [Bool.eq_iff_iff, hold0]
      refine ⟨fun hh => ?_, .inl⟩
      rcases hh with hh | ⟨hw, rfl⟩
      · exact hh
      · have hl : ¬ E.lastWrite i0 = true := fun hl => hn ⟨hw, hl, rfl⟩
        have hls := h.lst c hc k0 hkl (by rw [hi0]; exact hw)
        rw [hi0] at hls
        rw [hls] at hl
        apply Classical.byContradiction
        intro hno
        apply hl
        intro j hj hjl hjw hjv
        exact hno (E.hold_iff.2 ⟨j, hjl, by omega, hjw, by rw [hjv, hv0]⟩)
    · exact hne_c v c e
  have holdNew : E.wr i0 = true → E.lastWrite i0 = true → E.hold (D.next c0) v0 c0 = false ∧ E.hold (D'.next c0) v0 c0 = true := by
    intro hw hl
    refine ⟨?_, (hold0 v0).2 (.inr ⟨hw, rfl⟩)⟩
    have hls := h.lst c0 hc k0 hkl (by rw [hi0]; exact hw)
    rw [hi0] at hls
    have hls := hls.1 hl
    rw [Bool.eq_false_iff]
    intro hh
    obtain ⟨k, a1, a2, a3, a4⟩ := E.hold_iff.1 hh
    exact hls k (by omega) a1 a3 (by rw [a4, hv0])
  refine ⟨h.vs, ?nx, h.chr, h.inj, ?tp, ?pl, h.sr, ?aw, h.ad, ?ini, h.lst, ?ho, ?hs, ?cu, ?uo, ?ul, ?lv, ?ha⟩
  case nx =>
    intro c hcn
    rw [e_next]
    by_cases e : c = c0
    · subst e; rw [upd_self]; omega
    · rw [upd_ne _ _ e]; exact h.nx c hcn
  case tp =>
    rw [e_tp, h.tp, tot_one (p := fun c => (E.cl c : Int) - D.next c) (q := fun c => (E.cl c : Int) - D'.next c) hc (fun j hj hne => by simp only [e_next, upd_ne _ _ hne])]
    simp only [e_next, upd_self]
    omega
  case pl =>
    intro i hi
    rw [plq i hi, h.pl i hi]
    constructor
    · rintro ⟨⟨c, k, a1, a2, a3, a4⟩, hne⟩
      refine ⟨c, k, a1, a2, a3, ?_⟩
      rw [e_next]
      by_cases e : c = c0
      · subst e
        rw [upd_self]
        have : k ≠ k0 := by
          intro e; subst e
          rw [hch] at a3; omega
        omega
      · rw [upd_ne _ _ e]; exact a4
    · rintro ⟨c, k, a1, a2, a3, a4⟩
      rw [e_next] at a4
      by_cases e : c = c0
      · subst e
        rw [upd_self] at a4
        refine ⟨⟨c, k, a1, a2, a3, by omega⟩, ?_⟩
        intro e; subst e
        have := (h.inj c k c k0 a1 a2 hc hkl (by rw [a3, hch])).2
        omega
      · rw [upd_ne _ _ e] at a4
        refine ⟨⟨c, k, a1, a2, a3, a4⟩, ?_⟩
        intro e'; subst e'
        exact e (h.inj c k c0 k0 a1 a2 hc hkl (by rw [a3, hch])).1
  case aw =>
    intro i hi
    by_cases hcond : E.wr i0 = false ∧ E.chk i0 = true ∧ E.src i0 ≠ -1
    · rw [e_aw, if_pos hcond]
      have hrd : E.rd i0 = true := by simp [Env.rd, hhas, hcond.2.1]
      have hs := (h.sr i0 hin hrd hcond.2.2).1
      by_cases e : i = (E.src i0).toNat
      · subst e
        have h1 := cnt_one (p := fun j => E.rd j && decide (E.src j = ((E.src i0).toNat : Int)) && !D.placed j) (q := fun j => E.rd j && decide (E.src j = ((E.src i0).toNat : Int)) && !D'.placed j) (i := i0) hin
          (by simp [hpl0]) (by simp only [hrd, pl0, Bool.true_and, Bool.not_false, Bool.and_true, decide_eq_true_eq]; omega) (by intro j hj hne; simp only [pln j hne])
        rw [upd_self, h.aw _ hi, h1]
        omega
      · rw [upd_ne _ _ e, h.aw _ hi]
        congr 1
        apply cnt_congr
        intro j hj
        by_cases ej : j = i0
        · subst ej
          have : decide (E.src j = (i : Int)) = false := by simp; omega
          rw [this]; simp
        · simp only [pln j ej]
    · rw [e_aw, if_neg hcond, h.aw i hi]
      congr 1
      apply cnt_congr
      intro j hj
      by_cases ej : j = i0
      · subst ej
        have : (E.rd j && decide (E.src j = (i : Int))) = false := by
          by_cases hrd : E.rd j = true
          · have hck : E.chk j = true := by simp [Env.rd] at hrd; exact hrd.2
            have hwr : E.wr j = false := by simp [Env.chk] at hck; exact hck.1
            have : E.src j = -1 := by
              apply Classical.byContradiction
              intro hh; exact hcond ⟨hwr, hck, hh⟩
            simp [this]
          · simp at hrd; simp [hrd]
        rw [this]; simp
      · simp only [pln j ej]
  case ini =>
    intro v hvv
    by_cases hcond : E.wr i0 = false ∧ E.chk i0 = true ∧ E.src i0 = -1
    · rw [e_in, if_pos hcond]
      have hrd : E.rd i0 = true := by simp [Env.rd, hhas, hcond.2.1]
      by_cases e : v = v0
      · subst e
        have h1 := cnt_one (p := fun j => E.rd j && decide (E.src j = -1) && decide (E.vv j = (v : Int)) && !D.placed j) (q := fun j => E.rd j && decide (E.src j = -1) && decide (E.vv j = (v : Int)) && !D'.placed j) (i := i0) hin
          (by simp [hpl0]) (by simp [hrd, pl0, hcond.2.2, hv0]) (by intro j hj hne; simp only [pln j hne])
        rw [upd_self, h.ini _ hvv, h1]
        omega
      · rw [upd_ne _ _ e, h.ini _ hvv]
        congr 1
        apply cnt_congr
        intro j hj
        by_cases ej : j = i0
        · subst ej
          have : decide (E.vv j = (v : Int)) = false := by simp; omega
          rw [this]; simp
        · simp only [pln j ej]
    · rw [e_in, if_neg hcond, h.ini v hvv]
      congr 1
      apply cnt_congr
      intro j hj
      by_cases ej : j = i0
      · subst ej
        have : (E.rd j && decide (E.src j = -1)) = false := by
          by_cases hrd : E.rd j = true
          · have hck : E.chk j = true := by simp [Env.rd] at hrd; exact hrd.2
            have hwr : E.wr j = false := by simp [Env.chk] at hck; exact hck.1
            have : E.src j ≠ -1 := fun hh => hcond ⟨hwr, hck, hh⟩
            simp [this]
          · simp at hrd; simp [hrd]
        rw [this]; simp
      · simp only [pln j ej]
  case ho =>
    intro v hvv
    rw [e_ho]
    by_cases hcd : E.wr i0 = true ∧ E.lastWrite i0 = true
    · rw [if_pos hcd]
      by_cases e : v = v0
      · subst e
        have hN := holdNew hcd.1 hcd.2
        have h1 := cnt_one (p := fun c => E.hold (D.next c) v c) (q := fun c => E.hold (D'.next c) v c) hc hN.1 hN.2 (fun c _ e => hne_c v c e)
        rw [upd_self, h.ho v hvv, h1]
        omega
      · rw [upd_ne _ _ e, h.ho v hvv, cnt_congr (fun c _ => holdSame v (fun hh => e hh.2.2) c)]
    · rw [if_neg hcd, h.ho v hvv, cnt_congr (fun c _ => holdSame v (fun hh => hcd ⟨hh.1, hh.2.1⟩) c)]
  case hs =>
    intro v hvv
    rw [e_hs]
    by_cases hcd : E.wr i0 = true ∧ E.lastWrite i0 = true
    · rw [if_pos hcd]
      by_cases e : v = v0
      · subst e
        have hN := holdNew hcd.1 hcd.2
        have h1 := sumIf_one (p := fun c => E.hold (D.next c) v c) (q := fun c => E.hold (D'.next c) v c) hc hN.1 hN.2 (fun c _ e => hne_c v c e)
        rw [upd_self, h.hs v hvv, h1]
        omega
      · rw [upd_ne _ _ e, h.hs v hvv, sumIf_congr (fun c _ => holdSame v (fun hh => e hh.2.2) c)]
    · rw [if_neg hcd, h.hs v hvv, sumIf_congr (fun c _ => holdSame v (fun hh => hcd ⟨hh.1, hh.2.1⟩) c)]
  case cu =>
    intro v hvv
    rw [e_cu]
    by_cases hw : E.wr i0 = true
    · rw [if_pos hw]
      by_cases e : v = v0
      · subst e
        rw [upd_self]
        intro hne
        rcases hp hw with hp | ⟨a1, a2, a3, a4, a5⟩
        · exact absurd hp hne
        · refine ⟨a1, a3, by rw [a4, hv0], ?_⟩
          rw [pln _ (by omega)]; exact a5
      · rw [upd_ne _ _ e]
        intro hne
        obtain ⟨a1, a2, a3, a4⟩ := h.cu v hvv hne
        refine ⟨a1, a2, a3, ?_⟩
        rw [pln _ ?_]; exact a4
        intro e2; rw [e2, hv0] at a3; omega
    · rw [if_neg hw]
      intro hne
      obtain ⟨a1, a2, a3, a4⟩ := h.cu v hvv hne
      refine ⟨a1, a2, a3, ?_⟩
      rw [pln _ ?_]; exact a4
      intro e2; rw [e2] at a2; exact hw a2
  case uo =>
    intro c hcn
    rw [e_K, moveTo_of, e_next]
    by_cases e : c = c0
    · subst e; rw [upd_self, upd_self]
    · rw [upd_ne _ _ e, upd_ne _ _ e]; exact h.uo c hcn
  case ul =>
    rw [e_K]
    have hof : ∀ (k : Int), 0 ≤ k → (E.unreadOf c0 k < E.nv) ∧ (0 ≤ E.unreadOf c0 k ∨ E.unreadOf c0 k = -1) := by
      intro k hk
      unfold Env.unreadOf
      split
      next hcd =>
        have := h.opAt (k := k.toNat) hc (by omega)
        have := h.vs _ this.2
        omega
      · omega
    refine h.ul.move hc ?_ (hof k0 (by omega)).1 (hof k0 (by omega)).2
    rw [h.uo c0 hc]
    exact (hof _ (by omega)).1
  case lv =>
    refine ⟨h.lv.1, ?_⟩
    rw [e_lw]
    refine LevOk.congr (LevOk.set (E.chosen c0 k0) _ _ _ _ _ c0 h.lv.2 hc) (fun c hcn => ?_) (fun _ _ _ _ => rfl)
    rw [e_next]
    by_cases e : c = c0
    · subst e; rw [upd_self, upd_self]
    · rw [upd_ne _ _ e, upd_ne _ _ e]
  case ha =>
    have hP := xorOf_one (p := hPlaced mix E.seed D.placed) (q := hPlaced mix E.seed D'.placed) hin (fun j _ e => by unfold hPlaced; rw [pln j e])
    have hP2 : hPlaced mix E.seed D.placed i0 ^^^ hPlaced mix E.seed D'.placed i0 = mix ((i0 + 1 + E.seed) % 2 ^ 64) := by unfold hPlaced; rw [hpl0, pl0]; simp
    rw [hP2] at hP
    by_cases hw : E.wr i0 = true
    · rw [e_ha, if_pos hw, h.ha]
      have hC := xorOf_one (p := hCur mix E.seed D.current) (q := hCur mix E.seed D'.current) hvn (fun j _ e => by unfold hCur; rw [e_cu, if_pos hw, upd_ne _ _ e])
      rw [hCur_eq, hCur_eq] at hC
      have e3 : D'.current v0 = p := by rw [e_cu, if_pos hw, upd_self]
      rw [e3] at hC
      unfold hashOf
      rw [hP, hC]
      exact xor_law _ _ _ _ _ _
    · rw [e_ha, if_neg hw, h.ha]
      unfold hashOf
      rw [hP]
      have e3 : D'.current = D.current := by rw [e_cu, if_neg hw]
      rw [e3]
      exact xor_law2 _ _ _
end Go.Proofs.Qxb6616080a
