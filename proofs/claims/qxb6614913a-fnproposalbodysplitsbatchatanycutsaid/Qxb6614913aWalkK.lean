import Derived.Test.Qxb6614913aWalkJ
import Derived.Deep.RegionHeld3
namespace Go.Proofs.Qxb6614913a
open Go.RowKit
set_option linter.unusedVariables false
set_option linter.unusedSimpArgs false

/-- The world without block g. -/
def mask (g : Nat) (w : World) : World := { w with heap := w.heap.setIfInBounds g (.cells #[] 0) }
theorem mask_heap (g : Nat) (w : World) (k : Nat) (h : k ≠ g) : (mask g w).heap[k]? = w.heap[k]? := by
  simp [mask, Array.getElem?_setIfInBounds, Ne.symm h]
theorem mask_at (g : Nat) (w : World) (h : g < w.heap.size) : (mask g w).heap[g]? = some (.cells #[] 0) := by simp [mask, h]
theorem mask_same {g B : Nat} {w w' : World} (h1 : g < w.heap.size) (h2 : g < w'.heap.size) (hb : ∀ k, k < B → k ≠ g → w'.heap[k]? = w.heap[k]?) : Same B (mask g w) (mask g w') := by
  intro k hk
  by_cases e : k = g
  · subst e; rw [mask_at _ _ h1, mask_at _ _ h2]
  · rw [mask_heap _ _ _ e, mask_heap _ _ _ e, hb k hk e]
theorem mask_cell (g : Nat) (w : World) (a : Addr) (h : a.block ≠ g) : (mask g w).cell? a = w.cell? a := World.cell?_of_block (mask_heap g w a.block h)
theorem mask_dead (g : Nat) (w : World) (a : Addr) (v : Value) (h : (mask g w).cell? a = some v) : a.block ≠ g := by
  intro e
  unfold World.cell? at h
  by_cases hg : g < w.heap.size
  · have : (mask g w).heap[a.block]? = some (.cells #[] 0) := by rw [e]; simp [mask, hg]
    rw [this] at h
    simp at h
  · have : (mask g w).heap[a.block]? = none := by rw [e]; simp [mask]; omega
    rw [this] at h
    simp at h

/-- A slice of bytes that came in. -/
def SliB (w : World) (da : Option Addr) (dn dc : Nat) (s : List UInt8) : Prop :=
  dn = s.length ∧ ((da = none ∧ dn = 0 ∧ dc = 0) ∨ ∃ x, da = some x ∧ ∀ i, i < dn → w.cell? (x.add i) = some (.int .u8 (s.getD i 0).toNat))
def SliU (w : World) (da : Option Addr) (dn dc : Nat) (s : List Int) : Prop :=
  dn = s.length ∧ ((da = none ∧ dn = 0 ∧ dc = 0) ∨ ∃ x, da = some x ∧ ∀ i, i < dn → w.cell? (x.add i) = some (.int .u64 (s.getD i 0)))
theorem SliB.same {w w' : World} {da : Option Addr} {dn dc : Nat} {s : List UInt8} (h : SliB w da dn dc s) (hs : Same w.heap.size w w') : SliB w' da dn dc s := by
  obtain ⟨h1, h2 | ⟨x, rfl, hc⟩⟩ := h
  · exact ⟨h1, .inl h2⟩
  · exact ⟨h1, .inr ⟨x, rfl, fun i hi => (hs.cell (World.block_lt_of_cell? w _ (hc i hi))).trans (hc i hi)⟩⟩
theorem SliU.same {w w' : World} {da : Option Addr} {dn dc : Nat} {s : List Int} (h : SliU w da dn dc s) (hs : Same w.heap.size w w') : SliU w' da dn dc s := by
  obtain ⟨h1, h2 | ⟨x, rfl, hc⟩⟩ := h
  · exact ⟨h1, .inl h2⟩
  · exact ⟨h1, .inr ⟨x, rfl, fun i hi => (hs.cell (World.block_lt_of_cell? w _ (hc i hi))).trans (hc i hi)⟩⟩

theorem spot_none {w : World} {x : Addr} {v : Value} (h : w.cell? (x.add 0) = some v) : ∃ b off, x = ⟨b, off, none⟩ := by
  obtain ⟨b, off, spot⟩ := x
  have hspot : spot = none := by simpa [Addr.add] using World.cell?_spot h
  subst hspot
  exact ⟨b, off, rfl⟩

theorem f6_to (da : Option Addr) (dn dc : Nat) (s : List UInt8) (w : World) (h : SliB w da dn dc s) (hs : s.length ≤ 1048576) :
    Calls Try.prog 6 #[.slice da dn dc] w fun e w' => ∃ da' dc', e = .returned (.slice da' dn dc') ∧ w.grownBy w' none ∧ ∀ g, g < w.heap.size → DatB w'.heap.size (mask g w') da' dn dc' s := by
  obtain ⟨rfl, ⟨rfl, h0, rfl⟩ | ⟨x, rfl, hc⟩⟩ := h
  · rw [h0]
    exact (f6_nil w).mono fun e w' ⟨he, hw⟩ => ⟨none, 0, he, by rw [hw]; exact World.grownBy.refl _ _, fun g _ => ⟨h0.symm, .inl ⟨rfl, rfl, List.eq_nil_of_length_eq_zero h0⟩⟩⟩
  · have key : ∀ w', w' = w.alloc (.cells (Lib.byteCells s).toArray 5) → w.grownBy w' none ∧ ∀ g, g < w.heap.size → DatB w'.heap.size (mask g w') (some ⟨w.heap.size, 0, none⟩) s.length s.length s := by
      rintro w' rfl
      refine ⟨World.grownBy_alloc _ _ _, fun g hg => ⟨rfl, .inr ⟨w.heap.size, rfl, by simp, fun j hj => ?_⟩⟩⟩
      rw [mask_cell _ _ _ (by simp; omega), World.cell?_alloc_new]
      simp [Lib.byteCells, List.getD, hj]
    by_cases h0 : s.length = 0
    · have hnil : s = [] := List.eq_nil_of_length_eq_zero h0
      rw [h0]
      exact (f6_zero x dc w).mono fun e w' ⟨he, hw⟩ => ⟨some ⟨w.heap.size, 0, none⟩, 0, he, (key w' (by rw [hw, hnil]; rfl)).1, fun g hg => by have := (key w' (by rw [hw, hnil]; rfl)).2 g hg; rw [h0] at this; exact this⟩
    · obtain ⟨b, off, rfl⟩ := spot_none (hc 0 (by omega))
      exact (f6_some b off s.length dc s w rfl hs (fun i hi => by rw [← Addr.add_lit]; exact hc i hi)).mono fun e w' ⟨he, hw⟩ => ⟨_, _, he, (key w' hw).1, (key w' hw).2⟩

theorem f12_to (da : Option Addr) (dn dc : Nat) (s : List Int) (w : World) (h : SliU w da dn dc s) (hs : s.length ≤ 1048576) :
    Calls Try.prog 12 #[.slice da dn dc] w fun e w' => ∃ da' dc', e = .returned (.slice da' dn dc') ∧ w.grownBy w' none ∧ ∀ g, g < w.heap.size → DatU w'.heap.size (mask g w') (.slice da' dn dc') s := by
  obtain ⟨rfl, ⟨rfl, h0, rfl⟩ | ⟨x, rfl, hc⟩⟩ := h
  · have hnil : s = [] := List.eq_nil_of_length_eq_zero h0
    rw [h0]
    exact (f12_nil w).mono fun e w' ⟨he, hw⟩ => ⟨none, 0, he, by rw [hw]; exact World.grownBy.refl _ _, fun g _ => .inl ⟨rfl, hnil⟩⟩
  · have key : ∀ w', w' = w.alloc (.cells (s.map (Value.int .u64)).toArray 23) → w.grownBy w' none ∧ ∀ g, g < w.heap.size → DatU w'.heap.size (mask g w') (.slice (some ⟨w.heap.size, 0, none⟩) s.length s.length) s := by
      rintro w' rfl
      refine ⟨World.grownBy_alloc _ _ _, fun g hg => .inr ⟨w.heap.size, s.length, rfl, by simp, fun j hj => ?_⟩⟩
      rw [mask_cell _ _ _ (by simp; omega), World.cell?_alloc_new]
      simp [List.getD, hj]
    by_cases h0 : s.length = 0
    · have hnil : s = [] := List.eq_nil_of_length_eq_zero h0
      rw [h0]
      exact (f12_zero x dc w).mono fun e w' ⟨he, hw⟩ => ⟨some ⟨w.heap.size, 0, none⟩, 0, he, (key w' (by rw [hw, hnil]; rfl)).1, fun g hg => by have := (key w' (by rw [hw, hnil]; rfl)).2 g hg; rw [h0] at this; exact this⟩
    · obtain ⟨b, off, rfl⟩ := spot_none (hc 0 (by omega))
      exact (f12_some b off s.length dc s w rfl hs (fun i hi => by rw [← Addr.add_lit]; exact hc i hi)).mono fun e w' ⟨he, hw⟩ => ⟨_, _, he, (key w' hw).1, (key w' hw).2⟩

/-- AN ENTRY THAT CAME IN. -/
structure PEnt where
  frm : ByteArray
  seq : Int
  da : Option Addr
  dn : Nat
  dc : Nat
  hc : Bool
  join : Bool
  name : ByteArray
  addr : ByteArray
  hf : Bool
  sa : Option Addr
  sn : Nat
  sc : Nat
  hs : Bool
  read : Bool
  elem : ByteArray
  remove : Bool
  same : Bool
  at_ : Int
  spread : Bool
  ref : Bool
  data : List UInt8
  stable : List Int
def PEnt.setD (p : PEnt) : SetD := ⟨p.read, p.elem, p.remove, p.same, p.at_⟩
def PEnt.ent (p : PEnt) : EntD := ⟨p.frm, p.seq, p.data, if p.hc then some (p.join, p.name, p.addr) else none, if p.hf then some p.stable else none, if p.hs then some p.setD else none, p.spread, p.ref⟩
/-- Its seventeen cells. -/
def PEnt.vals (p : PEnt) : Array Value := #[.string p.frm, .int .u64 p.seq, .slice p.da p.dn p.dc, .bool p.hc, .bool p.join, .string p.name, .string p.addr, .bool p.hf, .slice p.sa p.sn p.sc, .bool p.hs, .bool p.read, .string p.elem, .bool p.remove, .bool p.same, .int .u64 p.at_, .bool p.spread, .bool p.ref]
structure PEnt.inW (p : PEnt) (w : World) : Prop where
  d : SliB w p.da p.dn p.dc p.data
  u : SliU w p.sa p.sn p.sc p.stable
  dl : p.data.length ≤ 1048576
  ul : p.stable.length ≤ 1048576
theorem PEnt.inW.mono {p : PEnt} {w w' : World} (h : p.inW w) (hs : Same w.heap.size w w') : p.inW w' := ⟨h.d.same hs, h.u.same hs, h.dl, h.ul⟩

/-- The three calls of a round together: a new entry out of one that came in. -/
theorem ent_of_new {p : PEnt} {w0 w1 w2 w3 : World} {da' : Option Addr} {dc' : Nat} {sa' : Option Addr} {sc' : Nat} {co fo so : Option Addr} {g : Nat} (hg : g < w0.heap.size)
    (g1 : w0.grownBy w1 none) (h1 : DatB w1.heap.size (mask g w1) da' p.dn dc' p.data) (g2 : w1.grownBy w2 none) (h2 : DatU w2.heap.size (mask g w2) (.slice sa' p.sn sc') p.stable)
    (h3 : NewEnt w2 w3 p.hc p.join p.name p.addr p.hf (.slice sa' p.sn sc') p.hs p.setD co fo so) : EntAt w3.heap.size (mask g w3) p.ent da' p.dn dc' co fo so := by
  have l1 := g1.size
  have l2 := g2.size
  have l3 := h3.grown.size
  have s23 : Same w2.heap.size (mask g w2) (mask g w3) := mask_same (by omega) (by omega) (fun k hk _ => h3.grown.block k hk (by simp))
  have s12 : Same w1.heap.size (mask g w1) (mask g w2) := mask_same (by omega) (by omega) (fun k hk _ => g2.block k hk (by simp))
  have up : ∀ {B B' : Nat} {w : World} {a : Option Addr} {n c : Nat} {s : List UInt8}, DatB B w a n c s → B ≤ B' → DatB B' w a n c s := by
    rintro B B' w a n c s ⟨e, h | ⟨b, e2, hb, hc⟩⟩ hBB
    · exact ⟨e, .inl h⟩
    · exact ⟨e, .inr ⟨b, e2, by omega, hc⟩⟩
  have upU : ∀ {B B' : Nat} {w : World} {x : Value} {s : List Int}, DatU B w x s → B ≤ B' → DatU B' w x s := by
    rintro B B' w x s (h | ⟨b, c, e2, hb, hc⟩) hBB
    · exact .inl h
    · exact .inr ⟨b, c, e2, by omega, hc⟩
  refine ⟨?_, ?_, ?_, ?_⟩
  · have : DatB w1.heap.size (mask g w3) da' p.dn dc' p.data := (h1.same s12).same (fun k hk => s23 k (by omega))
    exact up this (by omega)
  · rcases h3.chg with ⟨e, rfl⟩ | ⟨e, b, rfl, hb, hb2, c0, c1, c2⟩
    · exact .inl ⟨rfl, by simp [PEnt.ent, e]⟩
    · have hne : b ≠ g := by omega
      exact .inr ⟨b, _, _, _, rfl, hb2, by simp [PEnt.ent, e]; exact ⟨rfl, rfl, rfl⟩, by rw [mask_cell _ _ _ hne]; exact c0, by rw [mask_cell _ _ _ hne]; exact c1, by rw [mask_cell _ _ _ hne]; exact c2⟩
  · rcases h3.fls with ⟨e, rfl⟩ | ⟨e, b, rfl, hb, hb2, c0⟩
    · exact .inl ⟨rfl, by simp [PEnt.ent, e]⟩
    · have hne : b ≠ g := by omega
      exact .inr ⟨b, _, p.stable, rfl, hb2, by simp [PEnt.ent, e], by rw [mask_cell _ _ _ hne]; exact c0, upU (h2.same s23) (by omega)⟩
  · rcases h3.set with ⟨e, rfl⟩ | ⟨e, b, rfl, hb, hb2, c0⟩
    · exact .inl ⟨rfl, by simp [PEnt.ent, e]⟩
    · have hne : b ≠ g := by omega
      exact .inr ⟨b, p.setD, rfl, hb2, by simp [PEnt.ent, e], fun j => by rw [mask_cell _ _ _ hne]; exact c0 j⟩
end Go.Proofs.Qxb6614913a
