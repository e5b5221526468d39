import Derived.Test.Qxb6615679aFmtApp
import Derived.Deep.RegionHeld3
import Derived.Lib.BufferOwn
namespace Go.Proofs.Qxb6615679aFmt
open Go.RowKit
set_option linter.unusedVariables false
set_option linter.unusedSimpArgs false

theorem hide {q : Prop} (h : q) : Hid q := h
theorem cellRow {w : World} {g : Nat} {cur : Array Value} {t : TypeId} {fr : Nat × Nat} (h : w.heap[g]? = some (.cells cur t fr)) (i : Nat) : w.cell? ⟨g, i, none⟩ = cur[i]? := by
  unfold World.cell?
  simp only [h]
  rfl
theorem rowSet {w : World} {g i : Nat} {cs : Array Value} {t : TypeId} {fr : Nat × Nat} (h : w.heap[g]? = some (.cells cs t fr)) (v : Value) : (w.setCell ⟨g, i, none⟩ v).heap[g]? = some (.cells (cs.setIfInBounds i v) t fr) := by
  simp [World.setCell, Array.getElem?_modify, h]
theorem mk25 (n c : Nat) (hnc : n ≤ c) (hn : c ≤ 1099511627776) (w : World) : (Instr.makeSlice 25 (.int .i64 (n : Int)) (.int .i64 (c : Int))).run Tryf.prog w = .ok (.slice (some ⟨w.heap.size, 0, none⟩) n c) (w.alloc (.cells (madeCells #[.int .u8 0] c) 5)) := by
  obtain ⟨i, hi, hz, hs, hb⟩ := info_parts Tryf.info5
  have hr := run_make (P := Tryf.prog) w 25 5 i (.int .u8 0) Tryf.underlying25 hi hz .i64 .i64 n c (by omega) (by omega) (by rw [hb]; omega) (by omega)
  rw [hs, show (Value.int .u8 0).cells = #[.int .u8 0] from rfl] at hr
  simpa using hr

set_option maxRecDepth 100000 in
/-- (*bytes.Buffer).Len. -/
theorem f88_to (b : Nat) (ao : Option Addr) (n c : Nat) (w : World) (c0 : w.cell? ⟨b, 0, none⟩ = some (.slice ao n c)) (c1 : w.cell? ⟨b, 1, none⟩ = some (.int .i64 0)) (hn : n ≤ 1099511627776) :
    Calls Tryf.prog 88 #[.pointer (some ⟨b, 0, none⟩)] w fun e w' => e = .returned (.int .i64 n) ∧ ∃ k, w' = w.drewN k := by
  go_enter Tryf.func88, Tryf.ntmps88
  go_wp2
  go_quiet (fail)
  go_wp2
  go_ret
  exact ⟨rfl, _, rfl⟩

/-- The buffer grown: a new row that begins with the old bytes, with room for n more; nothing but block b was written. -/
structure Grew (b n : Nat) (l : List UInt8) (lr : Int) (w w' : World) : Prop where
  row : ∃ g cap cur, w.heap.size ≤ g ∧ w'.heap[b]? = some (.cells #[.slice (some ⟨g, 0, none⟩) (l.length + n) cap, .int .i64 0, .int .i8 lr] 65 (0, 0)) ∧ w'.heap[g]? = some (.cells cur 5 (0, 0)) ∧ cur.size = cap ∧ cap ≤ maxLen ∧ l.length + n ≤ cap ∧ cur.toList.take l.length = Lib.byteCells l
  grown : w.grownBy w' (some b)

/-- The buffer's cell 0 set to a new row. -/
theorem Grew.mk' {b n g cap : Nat} {l : List UInt8} {lr : Int} {w w1 : World} {v0 : Value} {cur : Array Value} (hbk : w.heap[b]? = some (.cells #[v0, .int .i64 0, .int .i8 lr] 65 (0, 0))) (hgr : w.grownBy w1 none) (hg : w.heap.size ≤ g) (h1 : w1.heap[g]? = some (.cells cur 5 (0, 0))) (hcs : cur.size = cap) (hcap : cap ≤ maxLen) (hroom : l.length + n ≤ cap)
    (htk : cur.toList.take l.length = Lib.byteCells l) : Grew b n l lr w (w1.setCell ⟨b, 0, none⟩ (.slice (some ⟨g, 0, none⟩) (l.length + n) cap)) := by
  have hlt : b < w.heap.size := (Array.getElem?_eq_some_iff.1 hbk).1
  have hb1 := (hgr.block b hlt (by simp)).trans hbk
  refine ⟨⟨g, cap, cur, hg, rowSet hb1 _, (Below.heap_setCell _ _ _ _ (show g ≠ b by omega)).trans h1, hcs, hcap, hroom, htk⟩, ?_⟩
  exact Lib.grownBy_setB ⟨hgr.os, hgr.tape, hgr.output, hgr.size, fun k hk _ => hgr.block k hk (by simp)⟩ 0 _

theorem Grew.mk3 {b n g cap : Nat} {l : List UInt8} {lr : Int} {w w2 : World} {v0 x : Value} {cur : Array Value} (hlt : b < w.heap.size) (hbk : w2.heap[b]? = some (.cells #[v0, .int .i64 0, .int .i8 lr] 65 (0, 0))) (hgr : w.grownBy w2 none) (hg : w.heap.size ≤ g) (h1 : w2.heap[g]? = some (.cells cur 5 (0, 0))) (hcs : cur.size = cap) (hcap : cap ≤ maxLen) (hroom : l.length + n ≤ cap)
    (htk : cur.toList.take l.length = Lib.byteCells l) : Grew b n l lr w (((w2.setCell ⟨b, 0, none⟩ x).setCell ⟨b, 1, none⟩ (.int .i64 0)).setCell ⟨b, 0, none⟩ (.slice (some ⟨g, 0, none⟩) (l.length + n) cap)) := by
  have hne : g ≠ b := by omega
  refine ⟨⟨g, cap, cur, hg, ?_, ?_, hcs, hcap, hroom, htk⟩, ?_⟩
  · exact rowSet (rowSet (rowSet hbk _) _) _
  · rw [Below.heap_setCell _ _ _ _ hne, Below.heap_setCell _ _ _ _ hne, Below.heap_setCell _ _ _ _ hne]; exact h1
  · exact Lib.grownBy_setB (Lib.grownBy_setB (Lib.grownBy_setB ⟨hgr.os, hgr.tape, hgr.output, hgr.size, fun k hk _ => hgr.block k hk (by simp)⟩ 0 _) 1 _) 0 _
theorem grown_below {w w1 w2 : World} {k : Nat} (h1 : w1 = w.drewN k) (h : Below w1.drew.heap.size w1.drew w2) : w.grownBy w2 none := by
  subst h1
  exact ⟨h.os, h.tape, h.output, h.size, fun i hi _ => h.block i hi⟩

set_option maxHeartbeats 4000000 in
set_option maxRecDepth 100000 in
theorem f87_small (b n : Nat) (lr : Int) (w : World) (hbk : w.heap[b]? = some (.cells #[.slice none 0 0, .int .i64 0, .int .i8 lr] 65 (0, 0))) (hn : 1 ≤ n) (h64 : n ≤ 64) :
    Calls Tryf.prog 87 #[.pointer (some ⟨b, 0, none⟩), .int .i64 n] w fun e w' => e = .returned (.int .i64 0) ∧ Grew b n [] lr w w' := by
  have c0 : w.cell? ⟨b, 0, none⟩ = some (.slice none 0 0) := cellRow hbk 0
  have c1 : w.cell? ⟨b, 1, none⟩ = some (.int .i64 0) := cellRow hbk 1
  have f0 : w.frozen? ⟨b, 0, none⟩ = false := frozen_of_row _ _ _ _ _ hbk
  have hlt : b < w.heap.size := (Array.getElem?_eq_some_iff.1 hbk).1
  have hne := fun w => Lib.run_eql_slice_nil (P := Tryf.prog) w 25 5 none 0 0 0 0 Tryf.underlying25
  have hmk : ∀ w, (Instr.makeSlice 25 (.int .i64 (n : Int)) (.int .i64 64)).run Tryf.prog w = .ok (.slice (some ⟨w.heap.size, 0, none⟩) n 64) (w.alloc (.cells (madeCells #[.int .u8 0] 64) 5)) := mk25 n 64 h64 (by omega)
  have HBK := hide hbk
  clear hbk
  go_enter Tryf.func87, Tryf.ntmps87
  go_wp2_with fail
  refine (f88_to b none 0 0 w c0 c1 (by omega)).mono ?_
  rintro e w1 ⟨rfl, k, hw1⟩
  have d0 : w1.cell? ⟨b, 0, none⟩ = some (.slice none 0 0) := hw1 ▸ c0
  have d1 : w1.cell? ⟨b, 1, none⟩ = some (.int .i64 0) := hw1 ▸ c1
  have g0 : w1.frozen? ⟨b, 0, none⟩ = false := hw1 ▸ f0
  have hlt1 : b < w1.heap.size := hw1 ▸ hlt
  have HW1 := hide hw1
  clear hw1 c0 c1 f0 hlt
  go_wp2_with fail
  refine (Tryf.Buffer_tryGrow_none b none 0 0 n w1 d0 (by omega) (by unfold maxLen; omega) (by omega)).mono ?_
  rintro e w2 ⟨rfl, hw2⟩
  obtain rfl : w1 = w2 := hw2.symm
  go_wp2
  go_ret
  refine ⟨rfl, ?_⟩
  have hgr : w.grownBy (w1.alloc (.cells (madeCells #[.int .u8 0] 64) 5)) none := by rw [HW1.out]; exact grownBy_trans_none (grownBy_drewN w k none) (World.grownBy_alloc _ _ _)
  have key := Grew.mk' (l := []) (n := n) HBK.out hgr (g := w1.heap.size) (by rw [HW1.out]; exact Nat.le_refl _) (by unfold World.alloc; exact Array.getElem?_push_size) (size_madeCells _ _) (by unfold maxLen; omega) (by simp; omega) (by simp [Lib.byteCells])
  rw [World.setCell_alloc_past (hn := hlt1)] at key
  simpa using key

set_option maxHeartbeats 4000000 in
set_option maxRecDepth 100000 in
theorem f87_big (b n : Nat) (lr : Int) (w : World) (hbk : w.heap[b]? = some (.cells #[.slice none 0 0, .int .i64 0, .int .i8 lr] 65 (0, 0))) (h64 : 64 < n) (hlim : n ≤ 1099511627776) :
    Calls Tryf.prog 87 #[.pointer (some ⟨b, 0, none⟩), .int .i64 n] w fun e w' => e = .returned (.int .i64 0) ∧ Grew b n [] lr w w' := by
  have c0 : w.cell? ⟨b, 0, none⟩ = some (.slice none 0 0) := cellRow hbk 0
  have c1 : w.cell? ⟨b, 1, none⟩ = some (.int .i64 0) := cellRow hbk 1
  have f0 : w.frozen? ⟨b, 0, none⟩ = false := frozen_of_row _ _ _ _ _ hbk
  have f1 : w.frozen? ⟨b, 1, none⟩ = false := frozen_of_row _ _ _ _ _ hbk
  have hlt : b < w.heap.size := (Array.getElem?_eq_some_iff.1 hbk).1
  have hne := fun w => Lib.run_eql_slice_nil (P := Tryf.prog) w 25 5 none 0 0 0 0 Tryf.underlying25
  have HBK := hide hbk
  clear hbk
  go_enter Tryf.func87, Tryf.ntmps87
  go_wp2_with fail
  refine (f88_to b none 0 0 w c0 c1 (by omega)).mono ?_
  rintro e w1 ⟨rfl, k, hw1⟩
  have d0 : w1.cell? ⟨b, 0, none⟩ = some (.slice none 0 0) := hw1 ▸ c0
  have d1 : w1.cell? ⟨b, 1, none⟩ = some (.int .i64 0) := hw1 ▸ c1
  have g0 : w1.frozen? ⟨b, 0, none⟩ = false := hw1 ▸ f0
  have g1 : w1.frozen? ⟨b, 1, none⟩ = false := hw1 ▸ f1
  have hlt1 : b < w1.heap.size := hw1 ▸ hlt
  have HW1 := hide hw1
  clear hw1 c0 c1 f0 f1 hlt
  go_wp2_with fail
  refine (Tryf.Buffer_tryGrow_none b none 0 0 n w1 d0 (by omega) (by unfold maxLen; omega) (by omega)).mono ?_
  rintro e w2 ⟨rfl, hw2⟩
  obtain rfl : w1 = w2 := hw2.symm
  go_wp2_with fail
  have hwn : IntKind.i64.wrap (n : Int) = n := by rw [IntKind.wrap_i64]; omega
  have hB1 : w1.heap[b]? = some (.cells #[.slice none 0 0, .int .i64 0, .int .i8 lr] 65 (0, 0)) := by rw [HW1.out]; exact HBK.out
  have HB1 := hide hB1
  clear hB1
  go_region_with (
      go_at_call 89
      refine (Tryf.bytes_growSlice_nil n _ (by omega) (by omega)).mono ?_
      rintro e w2 ⟨cap2, cells, rfl, hN, hcsz, hcap2, hcm2, hbel⟩
      have hbk2 : w2.heap[b]? = some (.cells #[.slice none 0 0, .int .i64 0, .int .i8 lr] 65 (0, 0)) := (hbel.block b hlt1).trans HB1.out
      have d0 : w2.cell? ⟨b, 0, none⟩ = some (.slice none 0 0) := cellRow hbk2 0
      have d1 : w2.cell? ⟨b, 1, none⟩ = some (.int .i64 0) := cellRow hbk2 1
      have e0 : w2.frozen? ⟨b, 0, none⟩ = false := frozen_of_row _ _ _ _ _ hbk2
      have e1 : w2.frozen? ⟨b, 1, none⟩ = false := frozen_of_row _ _ _ _ _ hbk2
      have HN := hide hN
      have HBK2 := hide hbk2
      have HBEL := hide hbel
      have HCS := hide hcsz
      clear hN hbk2 hbel hcsz)
  all_goals (
    go_wp2
    go_ret
    refine ⟨rfl, ?_⟩
    have hlt : b < w.heap.size := (Array.getElem?_eq_some_iff.1 HBK.out).1
    have key := Grew.mk3 (l := []) (n := n) (x := .slice (some ⟨w1.drew.heap.size, 0, none⟩) 0 cap2) hlt HBK2.out (grown_below HW1.out HBEL.out) (g := w1.drew.heap.size) (by rw [HW1.out]; exact Nat.le_refl _) HN.out HCS.out hcm2 (by simp; omega) (by simp [Lib.byteCells])
    simpa using key)
end Go.Proofs.Qxb6615679aFmt
