import Derived.Test.Qxb6616377aWalkD
import Derived.WalkSpells
import Derived.Deep.QuietTactic
import Derived.BigQuiet
namespace Go.Proofs.Qxb6616377a
set_option linter.unusedSimpArgs false
open Go.RowKit
set_option linter.unusedVariables false
theorem Try.info3 : (Try.prog.info? 3).map (fun i => (i.zero, i.size, i.bytes)) = some (some (.int .i64 0), 1, 8) := by kernel_rfl
theorem Try.size3 : (Try.prog.info? 3).map (·.size) = some 1 := by kernel_rfl
theorem mk3 (n : Nat) (hn : n ≤ 1048576) (w : World) : (Instr.makeSlice 22 (.int .i64 (n : Int)) (.int .i64 (n : Int))).run Try.prog w = .ok (.slice (some ⟨w.heap.size, 0, none⟩) n n) (w.alloc (.cells (madeCells #[.int .i64 0] n) 3)) := by
  obtain ⟨i, hi, hz, hs, hb⟩ := info_parts Try.info3
  have hr := run_make (P := Try.prog) w 22 3 i _ Try.underlying22 hi hz .i64 .i64 n n (by omega) (Int.le_refl _) (by rw [hb]; omega) (by omega)
  simpa [hs, Value.cells] using hr

/-- The numbers as cells. -/
def cellsOfInts (l : List Int) : Array Value := (l.map (Value.int .i64)).toArray
theorem cellsOfInts_get {l : List Int} {i : Nat} (h : i < l.length) : (cellsOfInts l)[i]? = some (.int .i64 (l.getD i 0)) := by
  simp [cellsOfInts, h, List.getD]

theorem setRow_alloc (w : World) (c cs : Array Value) (t : TypeId) : (w.alloc (.cells c t)).setRow w.heap.size cs = w.alloc (.cells cs t) := by
  unfold World.setRow World.alloc
  congr 1
  apply Array.ext_getElem?
  intro i
  simp only [Array.getElem?_modify, Array.getElem?_push]
  by_cases h : i = w.heap.size
  · subst h; simp
  · rw [if_neg (fun e => h e.symm)]
    simp [h]

theorem cp3 (x : Addr) (n cap : Nat) (l : List Int) (hl : l.length = n) (w : World) (hx : ∀ i, i < n → w.cell? (x.add i) = some (.int .i64 (l.getD i 0))) (ty : TypeId) :
    (Builtin.copy_ #[22, 22] ty #[.slice (some ⟨w.heap.size, 0, none⟩) n n, .slice (some x) n cap]).run Try.prog (w.alloc (.cells (madeCells #[.int .i64 0] n) 3)) = .ok (.int .i64 n) (w.alloc (.cells (cellsOfInts l) 3)) := by
  have hr := run_copy_row (P := Try.prog) (w.alloc (.cells (madeCells #[.int .i64 0] n) 3)) 22 22 ty 3 w.heap.size 0 n n x n cap (madeCells #[.int .i64 0] n) 3 (l.map (Value.int .i64)) Try.underlying22 Try.size3
    (heap_alloc_new w _) (by simp [hl]) (by
      intro j v hj
      have hjn : j < n := by have := (List.getElem?_eq_some_iff.1 hj).1; simpa [hl] using this
      rw [World.cell?_alloc_lt _ _ _ (World.block_lt_of_cell? w _ (hx j hjn)), hx j hjn]
      simp [List.getD, hl, hjn] at hj ⊢
      exact hj) (by simp [hl, size_madeCells]) (ints_oneCell _ _)
  have e : (List.take 0 (madeCells #[.int .i64 0] n).toList ++ l.map (Value.int .i64) ++ List.drop (0 + (l.map (Value.int .i64)).length) (madeCells #[.int .i64 0] n).toList) = l.map (Value.int .i64) := by
    rw [List.take_zero, List.nil_append, List.length_map, hl, Nat.zero_add, List.drop_of_length_le (by simp [size_madeCells]), List.append_nil]
  rw [e, setRow_alloc, List.length_map, hl] at hr
  exact hr
end Go.Proofs.Qxb6616377a
