import Derived.Test.Qxb6614913aWalkK
namespace Go.Proofs.Qxb6614913a
open Go.RowKit
set_option linter.unusedVariables false
set_option linter.unusedSimpArgs false

theorem Try.info41 : (Try.prog.info? 41).map (fun i => (i.zero.isSome, i.size, i.bytes)) = some (true, 8, 80) := by kernel_rfl
theorem mk28 (n : Nat) (hn : n ≤ 1048576) : ∃ z : Array Value, ∀ w, (Instr.makeSlice 28 (.int .i64 (n : Int)) (.int .i64 (n : Int))).run Try.prog w = .ok (.slice (some ⟨w.heap.size, 0, none⟩) n n) (w.alloc (.cells (madeCells z (n * 8)) 41)) := by
  obtain ⟨i, hi, hzz⟩ := Option.map_eq_some_iff.1 Try.info41
  simp only [Prod.mk.injEq] at hzz
  obtain ⟨hz, hs, hb⟩ := hzz
  obtain ⟨z, hz⟩ := Option.isSome_iff_exists.1 hz
  refine ⟨z.cells, fun w => ?_⟩
  have hr := run_make (P := Try.prog) w 28 41 i z Try.underlying28 hi hz .i64 .i64 n n (by omega) (Int.le_refl _) (by rw [hb]; omega) (by omega)
  rw [hs] at hr
  simpa using hr

theorem grownBy_none_then {w w1 w2 : World} {r : Option Nat} (h : w.grownBy w1 r) (k : w1.grownBy w2 none) : w.grownBy w2 r :=
  ⟨k.os.trans h.os, k.tape.trans h.tape, k.output.trans h.output, Nat.le_trans h.size k.size, fun i hi hne => (k.block i (Nat.lt_of_lt_of_le hi h.size) (by simp)).trans (h.block i hi hne)⟩
theorem grownBy_setCell {w w1 : World} {g : Nat} (h : w.grownBy w1 (some g)) (o : Nat) (v : Value) : w.grownBy (w1.setCell ⟨g, o, none⟩ v) (some g) :=
  ⟨h.os, h.tape, h.output, by rw [World.size_setCell]; exact h.size, fun i hi hne => (Below.heap_setCell _ _ _ _ (fun e => hne (by rw [e]))).trans (h.block i hi hne)⟩

/-- What the region keeps, shown anew in a later world. -/
theorem sreg_step {W1 w w' : World} {eb g : Nat} {p : PEnt} (hg : w.grownBy w' none) (h : W1.grownBy w (some g) ∧ w.cell? ⟨eb, 0, none⟩ = some (.string p.frm) ∧ w.cell? ⟨eb, 1, none⟩ = some (.int .u64 p.seq) ∧ w.cell? ⟨eb, 2, none⟩ = some (.slice p.da p.dn p.dc) ∧ w.cell? ⟨eb, 3, none⟩ = some (.bool p.hc) ∧ w.cell? ⟨eb, 4, none⟩ = some (.bool p.join) ∧ w.cell? ⟨eb, 5, none⟩ = some (.string p.name) ∧ w.cell? ⟨eb, 6, none⟩ = some (.string p.addr) ∧ w.cell? ⟨eb, 7, none⟩ = some (.bool p.hf) ∧ w.cell? ⟨eb, 8, none⟩ = some (.slice p.sa p.sn p.sc) ∧ w.cell? ⟨eb, 9, none⟩ = some (.bool p.hs) ∧ w.cell? ⟨eb, 10, none⟩ = some (.bool p.read) ∧ w.cell? ⟨eb, 11, none⟩ = some (.string p.elem) ∧ w.cell? ⟨eb, 12, none⟩ = some (.bool p.remove) ∧ w.cell? ⟨eb, 13, none⟩ = some (.bool p.same) ∧ w.cell? ⟨eb, 14, none⟩ = some (.int .u64 p.at_) ∧ w.cell? ⟨eb, 15, none⟩ = some (.bool p.spread) ∧ w.cell? ⟨eb, 16, none⟩ = some (.bool p.ref)) : W1.grownBy w' (some g) ∧ w'.cell? ⟨eb, 0, none⟩ = some (.string p.frm) ∧ w'.cell? ⟨eb, 1, none⟩ = some (.int .u64 p.seq) ∧ w'.cell? ⟨eb, 2, none⟩ = some (.slice p.da p.dn p.dc) ∧ w'.cell? ⟨eb, 3, none⟩ = some (.bool p.hc) ∧ w'.cell? ⟨eb, 4, none⟩ = some (.bool p.join) ∧ w'.cell? ⟨eb, 5, none⟩ = some (.string p.name) ∧ w'.cell? ⟨eb, 6, none⟩ = some (.string p.addr) ∧ w'.cell? ⟨eb, 7, none⟩ = some (.bool p.hf) ∧ w'.cell? ⟨eb, 8, none⟩ = some (.slice p.sa p.sn p.sc) ∧ w'.cell? ⟨eb, 9, none⟩ = some (.bool p.hs) ∧ w'.cell? ⟨eb, 10, none⟩ = some (.bool p.read) ∧ w'.cell? ⟨eb, 11, none⟩ = some (.string p.elem) ∧ w'.cell? ⟨eb, 12, none⟩ = some (.bool p.remove) ∧ w'.cell? ⟨eb, 13, none⟩ = some (.bool p.same) ∧ w'.cell? ⟨eb, 14, none⟩ = some (.int .u64 p.at_) ∧ w'.cell? ⟨eb, 15, none⟩ = some (.bool p.spread) ∧ w'.cell? ⟨eb, 16, none⟩ = some (.bool p.ref) := by
  obtain ⟨hw, h0, h1, h2, h3, h4, h5, h6, h7, h8, h9, h10, h11, h12, h13, h14, h15, h16⟩ := h
  exact ⟨grownBy_none_then hw hg, hg.cell h0 (by simp), hg.cell h1 (by simp), hg.cell h2 (by simp), hg.cell h3 (by simp), hg.cell h4 (by simp), hg.cell h5 (by simp), hg.cell h6 (by simp), hg.cell h7 (by simp), hg.cell h8 (by simp), hg.cell h9 (by simp), hg.cell h10 (by simp), hg.cell h11 (by simp), hg.cell h12 (by simp), hg.cell h13 (by simp), hg.cell h14 (by simp), hg.cell h15 (by simp), hg.cell h16 (by simp)⟩
theorem sreg_set {W1 w : World} {eb g : Nat} {p : PEnt} (hne : g ≠ eb) (o : Nat) (v : Value) (h : W1.grownBy w (some g) ∧ w.cell? ⟨eb, 0, none⟩ = some (.string p.frm) ∧ w.cell? ⟨eb, 1, none⟩ = some (.int .u64 p.seq) ∧ w.cell? ⟨eb, 2, none⟩ = some (.slice p.da p.dn p.dc) ∧ w.cell? ⟨eb, 3, none⟩ = some (.bool p.hc) ∧ w.cell? ⟨eb, 4, none⟩ = some (.bool p.join) ∧ w.cell? ⟨eb, 5, none⟩ = some (.string p.name) ∧ w.cell? ⟨eb, 6, none⟩ = some (.string p.addr) ∧ w.cell? ⟨eb, 7, none⟩ = some (.bool p.hf) ∧ w.cell? ⟨eb, 8, none⟩ = some (.slice p.sa p.sn p.sc) ∧ w.cell? ⟨eb, 9, none⟩ = some (.bool p.hs) ∧ w.cell? ⟨eb, 10, none⟩ = some (.bool p.read) ∧ w.cell? ⟨eb, 11, none⟩ = some (.string p.elem) ∧ w.cell? ⟨eb, 12, none⟩ = some (.bool p.remove) ∧ w.cell? ⟨eb, 13, none⟩ = some (.bool p.same) ∧ w.cell? ⟨eb, 14, none⟩ = some (.int .u64 p.at_) ∧ w.cell? ⟨eb, 15, none⟩ = some (.bool p.spread) ∧ w.cell? ⟨eb, 16, none⟩ = some (.bool p.ref)) : W1.grownBy (w.setCell ⟨g, o, none⟩ v) (some g) ∧ (w.setCell ⟨g, o, none⟩ v).cell? ⟨eb, 0, none⟩ = some (.string p.frm) ∧ (w.setCell ⟨g, o, none⟩ v).cell? ⟨eb, 1, none⟩ = some (.int .u64 p.seq) ∧ (w.setCell ⟨g, o, none⟩ v).cell? ⟨eb, 2, none⟩ = some (.slice p.da p.dn p.dc) ∧ (w.setCell ⟨g, o, none⟩ v).cell? ⟨eb, 3, none⟩ = some (.bool p.hc) ∧ (w.setCell ⟨g, o, none⟩ v).cell? ⟨eb, 4, none⟩ = some (.bool p.join) ∧ (w.setCell ⟨g, o, none⟩ v).cell? ⟨eb, 5, none⟩ = some (.string p.name) ∧ (w.setCell ⟨g, o, none⟩ v).cell? ⟨eb, 6, none⟩ = some (.string p.addr) ∧ (w.setCell ⟨g, o, none⟩ v).cell? ⟨eb, 7, none⟩ = some (.bool p.hf) ∧ (w.setCell ⟨g, o, none⟩ v).cell? ⟨eb, 8, none⟩ = some (.slice p.sa p.sn p.sc) ∧ (w.setCell ⟨g, o, none⟩ v).cell? ⟨eb, 9, none⟩ = some (.bool p.hs) ∧ (w.setCell ⟨g, o, none⟩ v).cell? ⟨eb, 10, none⟩ = some (.bool p.read) ∧ (w.setCell ⟨g, o, none⟩ v).cell? ⟨eb, 11, none⟩ = some (.string p.elem) ∧ (w.setCell ⟨g, o, none⟩ v).cell? ⟨eb, 12, none⟩ = some (.bool p.remove) ∧ (w.setCell ⟨g, o, none⟩ v).cell? ⟨eb, 13, none⟩ = some (.bool p.same) ∧ (w.setCell ⟨g, o, none⟩ v).cell? ⟨eb, 14, none⟩ = some (.int .u64 p.at_) ∧ (w.setCell ⟨g, o, none⟩ v).cell? ⟨eb, 15, none⟩ = some (.bool p.spread) ∧ (w.setCell ⟨g, o, none⟩ v).cell? ⟨eb, 16, none⟩ = some (.bool p.ref) := by
  obtain ⟨hw, h0, h1, h2, h3, h4, h5, h6, h7, h8, h9, h10, h11, h12, h13, h14, h15, h16⟩ := h
  have k : ∀ j, (w.setCell ⟨g, o, none⟩ v).cell? ⟨eb, j, none⟩ = w.cell? ⟨eb, j, none⟩ := fun j => World.cell?_setCell_far _ _ _ _ hne
  exact ⟨grownBy_setCell hw o v, (k 0).trans h0, (k 1).trans h1, (k 2).trans h2, (k 3).trans h3, (k 4).trans h4, (k 5).trans h5, (k 6).trans h6, (k 7).trans h7, (k 8).trans h8, (k 9).trans h9, (k 10).trans h10, (k 11).trans h11, (k 12).trans h12, (k 13).trans h13, (k 14).trans h14, (k 15).trans h15, (k 16).trans h16⟩
theorem sreg_start {W1 : World} {eb g : Nat} {p : PEnt} (h : ∀ j, W1.cell? ⟨eb, j, none⟩ = #[.string p.frm, .int .u64 p.seq, .slice p.da p.dn p.dc, .bool p.hc, .bool p.join, .string p.name, .string p.addr, .bool p.hf, .slice p.sa p.sn p.sc, .bool p.hs, .bool p.read, .string p.elem, .bool p.remove, .bool p.same, .int .u64 p.at_, .bool p.spread, .bool p.ref][j]?) : W1.grownBy W1.drew (some g) ∧ W1.drew.cell? ⟨eb, 0, none⟩ = some (.string p.frm) ∧ W1.drew.cell? ⟨eb, 1, none⟩ = some (.int .u64 p.seq) ∧ W1.drew.cell? ⟨eb, 2, none⟩ = some (.slice p.da p.dn p.dc) ∧ W1.drew.cell? ⟨eb, 3, none⟩ = some (.bool p.hc) ∧ W1.drew.cell? ⟨eb, 4, none⟩ = some (.bool p.join) ∧ W1.drew.cell? ⟨eb, 5, none⟩ = some (.string p.name) ∧ W1.drew.cell? ⟨eb, 6, none⟩ = some (.string p.addr) ∧ W1.drew.cell? ⟨eb, 7, none⟩ = some (.bool p.hf) ∧ W1.drew.cell? ⟨eb, 8, none⟩ = some (.slice p.sa p.sn p.sc) ∧ W1.drew.cell? ⟨eb, 9, none⟩ = some (.bool p.hs) ∧ W1.drew.cell? ⟨eb, 10, none⟩ = some (.bool p.read) ∧ W1.drew.cell? ⟨eb, 11, none⟩ = some (.string p.elem) ∧ W1.drew.cell? ⟨eb, 12, none⟩ = some (.bool p.remove) ∧ W1.drew.cell? ⟨eb, 13, none⟩ = some (.bool p.same) ∧ W1.drew.cell? ⟨eb, 14, none⟩ = some (.int .u64 p.at_) ∧ W1.drew.cell? ⟨eb, 15, none⟩ = some (.bool p.spread) ∧ W1.drew.cell? ⟨eb, 16, none⟩ = some (.bool p.ref) :=
  ⟨grownBy_drewN W1 1 (some g), h 0, h 1, h 2, h 3, h 4, h 5, h 6, h 7, h 8, h 9, h 10, h 11, h 12, h 13, h 14, h 15, h 16⟩
theorem hide {q : Prop} (h : q) : Hid q := h

theorem cellRow {w : World} {g : Nat} {cur : Array Value} {t : TypeId} {fr : Nat × Nat} (h : w.heap[g]? = some (.cells cur t fr)) (i : Nat) : w.cell? ⟨g, i, none⟩ = cur[i]? := by
  unfold World.cell?
  simp only [h]
  rfl
theorem rowSet {w : World} {g i : Nat} {cs : Array Value} {t : TypeId} {fr : Nat × Nat} (h : w.heap[g]? = some (.cells cs t fr)) (v : Value) : (w.setCell ⟨g, i, none⟩ v).heap[g]? = some (.cells (cs.setIfInBounds i v) t fr) := by
  simp [World.setCell, Array.getElem?_modify, h]

/-- Eight cells written side by side. -/
structure Eight (g o N : Nat) (vs : Array Value) (w w8 : World) : Prop where
  grown : w.grownBy w8 (some g)
  size : w8.heap.size = w.heap.size
  row : ∃ cur, w8.heap[g]? = some (.cells cur 41 (0, 0)) ∧ cur.size = N
  new : ∀ j, j < 8 → w8.cell? ⟨g, o + j, none⟩ = vs[j]?
  old : ∀ i, i < o → w8.cell? ⟨g, i, none⟩ = w.cell? ⟨g, i, none⟩
theorem eight {w : World} {g o N : Nat} (hg : ∃ cur, w.heap[g]? = some (.cells cur 41 (0, 0)) ∧ cur.size = N) (ho : o + 8 ≤ N) (v0 v1 v2 v3 v4 v5 v6 v7 : Value) :
    Eight g o N #[v0, v1, v2, v3, v4, v5, v6, v7] w ((((((((w.setCell ⟨g, o, none⟩ v0).setCell ⟨g, o + 1, none⟩ v1).setCell ⟨g, o + 2, none⟩ v2).setCell ⟨g, o + 3, none⟩ v3).setCell ⟨g, o + 4, none⟩ v4).setCell ⟨g, o + 5, none⟩ v5).setCell ⟨g, o + 6, none⟩ v6).setCell ⟨g, o + 7, none⟩ v7) := by
  obtain ⟨cur, hg, hN⟩ := hg
  have h8 := (rowSet (i := o + 7) (rowSet (i := o + 6) (rowSet (i := o + 5) (rowSet (i := o + 4) (rowSet (i := o + 3) (rowSet (i := o + 2) (rowSet (i := o + 1) (rowSet (i := o) hg v0) v1) v2) v3) v4) v5) v6) v7)
  refine ⟨(grownBy_setCell (grownBy_setCell (grownBy_setCell (grownBy_setCell (grownBy_setCell (grownBy_setCell (grownBy_setCell (grownBy_setCell (World.grownBy.refl w _) _ _) _ _) _ _) _ _) _ _) _ _) _ _) _ _), by simp only [World.size_setCell], ⟨_, h8, by simp [hN]⟩, fun j hj => ?_, fun i hi => ?_⟩
  · rw [cellRow h8]
    have hc : j = 0 ∨ j = 1 ∨ j = 2 ∨ j = 3 ∨ j = 4 ∨ j = 5 ∨ j = 6 ∨ j = 7 := by omega
    rcases hc with rfl | rfl | rfl | rfl | rfl | rfl | rfl | rfl
    all_goals
      simp only [Array.getElem?_setIfInBounds, Array.size_setIfInBounds]
      repeat (first | rw [if_pos trivial] | rw [if_pos (by omega)] | rw [if_neg (by omega)])
      rfl
  · rw [cellRow h8, cellRow hg]
    simp only [Array.getElem?_setIfInBounds, Array.size_setIfInBounds]
    repeat (first | rw [if_neg (by omega)])

/-- What a cell of the masked world says, the world says. -/
theorem mask_some {g : Nat} {w : World} {a : Addr} {v : Value} (h : (mask g w).cell? a = some v) : w.cell? a = some v := (mask_cell g w a (mask_dead g w a v h)).symm.trans h
theorem EntAt.unmask {B g : Nat} {w : World} {E : EntD} {da : Option Addr} {dn dc : Nat} {co fo so : Option Addr} (h : EntAt B (mask g w) E da dn dc co fo so) : EntAt B w E da dn dc co fo so := by
  refine ⟨?_, ?_, ?_, ?_⟩
  · obtain ⟨e, h | ⟨b, e2, hb, hc⟩⟩ := h.data
    · exact ⟨e, .inl h⟩
    · exact ⟨e, .inr ⟨b, e2, hb, fun j hj => mask_some (hc j hj)⟩⟩
  · rcases h.chg with h | ⟨b, j, n, a, e, hb, e2, c0, c1, c2⟩
    · exact .inl h
    · exact .inr ⟨b, j, n, a, e, hb, e2, mask_some c0, mask_some c1, mask_some c2⟩
  · rcases h.fls with h | ⟨b, x, ns, e, hb, e2, c0, hd⟩
    · exact .inl h
    · refine .inr ⟨b, x, ns, e, hb, e2, mask_some c0, ?_⟩
      rcases hd with h | ⟨b, c, e2, hb, hc⟩
      · exact .inl h
      · exact .inr ⟨b, c, e2, hb, fun j hj => mask_some (hc j hj)⟩
  · rcases h.set with h | ⟨b, d, e, hb, e2, c0⟩
    · exact .inl h
    · refine .inr ⟨b, d, e, hb, e2, fun j => ?_⟩
      have hne : b ≠ g := mask_dead g w ⟨b, 0, none⟩ _ (c0 0)
      rw [← mask_cell g w ⟨b, j, none⟩ hne]
      exact c0 j
theorem EntAt.up {B B' : Nat} {w : World} {E : EntD} {da : Option Addr} {dn dc : Nat} {co fo so : Option Addr} (h : EntAt B w E da dn dc co fo so) (hB : B ≤ B') : EntAt B' w E da dn dc co fo so := by
  refine ⟨?_, ?_, ?_, ?_⟩
  · obtain ⟨e, h | ⟨b, e2, hb, hc⟩⟩ := h.data
    · exact ⟨e, .inl h⟩
    · exact ⟨e, .inr ⟨b, e2, by omega, hc⟩⟩
  · rcases h.chg with h | ⟨b, j, n, a, e, hb, e2, c0⟩
    · exact .inl h
    · exact .inr ⟨b, j, n, a, e, by omega, e2, c0⟩
  · rcases h.fls with h | ⟨b, x, ns, e, hb, e2, c0, hd⟩
    · exact .inl h
    · refine .inr ⟨b, x, ns, e, by omega, e2, c0, ?_⟩
      rcases hd with h | ⟨b, c, e2, hb, hc⟩
      · exact .inl h
      · exact .inr ⟨b, c, e2, by omega, hc⟩
  · rcases h.set with h | ⟨b, d, e, hb, e2, c0⟩
    · exact .inl h
    · exact .inr ⟨b, d, e, by omega, e2, c0⟩

/-- k entries are turned. -/
structure Conv (W : World) (g n : Nat) (Ps : List PEnt) (k : Nat) (wr : World) : Prop where
  grown : W.grownBy wr none
  gs : W.heap.size = g
  lt : g < wr.heap.size
  row : ∃ cur, wr.heap[g]? = some (.cells cur 41 (0, 0)) ∧ cur.size = n * 8
  ent : ∀ i (h : i < Ps.length), i < k → ∃ da dn dc co fo so, EntAt wr.heap.size (mask g wr) Ps[i].ent da dn dc co fo so ∧
    ∀ j, j < 8 → wr.cell? ⟨g, i * 8 + j, none⟩ = #[.string Ps[i].ent.frm, .int .u64 Ps[i].ent.seq, .slice da dn dc, .pointer co, .pointer fo, .pointer so, .bool Ps[i].ent.spread, .bool Ps[i].ent.ref][j]?
theorem Conv.start (W : World) (n : Nat) (Ps : List PEnt) (z : Array Value) : Conv W W.heap.size n Ps 0 (W.alloc (.cells (madeCells z (n * 8)) 41)) :=
  ⟨World.grownBy_alloc _ _ _, rfl, by simp [World.size_alloc], ⟨_, by unfold World.alloc; exact Array.getElem?_push_size, size_madeCells z _⟩, fun i h hi => absurd hi (by omega)⟩
theorem Conv.bat {W : World} {g n : Nat} {Ps : List PEnt} {wr : World} (h : Conv W g n Ps n wr) (hl : Ps.length = n) : BatAt wr.heap.size wr g 0 (Ps.map PEnt.ent) := by
  refine ⟨h.lt, fun i hi => ?_⟩
  have hi' : i < Ps.length := by simpa using hi
  obtain ⟨da, dn, dc, co, fo, so, he, hc⟩ := h.ent i hi' (by omega)
  refine ⟨da, dn, dc, co, fo, so, ?_, fun j hj => ?_⟩
  · simpa using he.unmask
  · simpa using hc j hj

/-- One round. -/
theorem Conv.step {W : World} {g n : Nat} {Ps : List PEnt} {k : Nat} {wr w0 w1 w2 w3 w8 : World} {p : PEnt} {da' : Option Addr} {dc' : Nat} {sa' : Option Addr} {sc' : Nat} {co fo so : Option Addr} (h : Conv W g n Ps k wr) (hk : k < Ps.length) (hp : Ps[k] = p) (hl : Ps.length = n)
    (g0 : wr.grownBy w0 none) (g1 : w0.grownBy w1 none) (h1 : ∀ g, g < w0.heap.size → DatB w1.heap.size (mask g w1) da' p.dn dc' p.data) (g2 : w1.grownBy w2 none) (h2 : ∀ g, g < w1.heap.size → DatU w2.heap.size (mask g w2) (.slice sa' p.sn sc') p.stable)
    (h3 : NewEnt w2 w3 p.hc p.join p.name p.addr p.hf (.slice sa' p.sn sc') p.hs p.setD co fo so)
    (h8 : Eight g (k * 8) (n * 8) #[.string p.frm, .int .u64 p.seq, .slice da' p.dn dc', .pointer co, .pointer fo, .pointer so, .bool p.spread, .bool p.ref] w3 w8) : Conv W g n Ps (k + 1) w8 := by
  have hlt := h.lt
  have l0 := g0.size
  have l1 := g1.size
  have l2 := g2.size
  have l3 := h3.grown.size
  have gall : wr.grownBy w3 none := grownBy_trans_none g0 (grownBy_trans_none g1 (grownBy_trans_none g2 h3.grown))
  have hgs := h.gs
  refine ⟨⟨h8.grown.os.trans (gall.os.trans h.grown.os), h8.grown.tape.trans (gall.tape.trans h.grown.tape), h8.grown.output.trans (gall.output.trans h.grown.output), by have := h.grown.size; rw [h8.size]; omega, fun i hi hne => ?_⟩, h.gs, by rw [h8.size]; omega, h8.row, fun i hi hik => ?_⟩
  · have hig : i ≠ g := by omega
    exact (h8.grown.block i (by have := h.grown.size; omega) (by simp [hig])).trans ((gall.block i (by have := h.grown.size; omega) (by simp)).trans (h.grown.block i hi hne))
  · have m38 : Same w3.heap.size (mask g w3) (mask g w8) := mask_same (by omega) (by rw [h8.size]; omega) (fun b hb hne => h8.grown.block b hb (by simp [hne]))
    by_cases e : i = k
    · subst e
      refine ⟨da', p.dn, dc', co, fo, so, ?_, ?_⟩
      · rw [hp, h8.size]
        exact (ent_of_new (by omega) g1 (h1 g (by omega)) g2 (h2 g (by omega)) h3).same m38
      · rw [hp]
        exact h8.new
    · obtain ⟨da, dn, dc, co, fo, so, he, hc⟩ := h.ent i hi (by omega)
      refine ⟨da, dn, dc, co, fo, so, ?_, fun j hj => ?_⟩
      · have mr3 : Same wr.heap.size (mask g wr) (mask g w3) := mask_same (by omega) (by omega) (fun b hb hne => gall.block b hb (by simp))
        rw [h8.size]
        exact ((he.same mr3).up (by omega)).same m38
      · rw [h8.old _ (by omega), World.cell?_of_block (gall.block g hlt (by simp))]
        exact hc j hj
end Go.Proofs.Qxb6614913a
