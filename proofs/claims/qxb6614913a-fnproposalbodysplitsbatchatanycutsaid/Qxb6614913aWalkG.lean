import Derived.Test.Qxb6614913aWalkF
namespace Go.Proofs.Qxb6614913a
open Go.RowKit
set_option linter.unusedVariables false
set_option linter.unusedSimpArgs false

theorem mk22 (n : Nat) (hn : n ≤ 1048576) (w : World) : (Instr.makeSlice 22 (.int .i64 (n : Int)) (.int .i64 (n : Int))).run Try.prog w = .ok (.slice (some ⟨w.heap.size, 0, none⟩) n n) (w.alloc (.cells (madeCells #[.int .u8 0] n) 5)) := by
  obtain ⟨i, hi, hz, hs, hb⟩ := info_parts Try.info5
  have hr := run_make (P := Try.prog) w 22 5 i _ Try.underlying22 hi hz .i64 .i64 n n (by omega) (Int.le_refl _) (by rw [hb]; omega) (by omega)
  simpa [hs, Value.cells] using hr
theorem Try.info23 : (Try.prog.info? 23).map (fun i => (i.zero, i.size, i.bytes)) = some (some (.int .u64 0), 1, 8) := by kernel_rfl
theorem mk34 (n : Nat) (hn : n ≤ 1048576) (w : World) : (Instr.makeSlice 34 (.int .i64 (n : Int)) (.int .i64 (n : Int))).run Try.prog w = .ok (.slice (some ⟨w.heap.size, 0, none⟩) n n) (w.alloc (.cells (madeCells #[.int .u64 0] n) 23)) := by
  obtain ⟨i, hi, hz, hs, hb⟩ := info_parts Try.info23
  have hr := run_make (P := Try.prog) w 34 23 i _ Try.underlying34 hi hz .i64 .i64 n n (by omega) (Int.le_refl _) (by rw [hb]; omega) (by omega)
  simpa [hs, Value.cells] using hr

/-- A row of which the first k cells are those of the list. -/
structure Half (xs : List Value) (k : Nat) (cur : Array Value) : Prop where
  size : cur.size = xs.length
  done : ∀ i, i < k → cur[i]? = xs[i]?
theorem Half.step {xs : List Value} {k : Nat} {cur : Array Value} (h : Half xs k cur) (hk : k < xs.length) (x : Value) (hx : xs[k]? = some x) : Half xs (k + 1) (cur.setIfInBounds k x) := by
  refine ⟨by simp [h.size], fun i hi => ?_⟩
  rw [Array.getElem?_setIfInBounds]
  by_cases e : k = i
  · subst e; rw [if_pos rfl, if_pos (by rw [h.size]; exact hk), hx]
  · rw [if_neg e]; exact h.done i (by omega)
theorem Half.full {xs : List Value} {cur : Array Value} (h : Half xs xs.length cur) : cur = xs.toArray := by
  apply Array.ext_getElem?
  intro i
  by_cases hi : i < xs.length
  · rw [h.done i hi]; simp
  · rw [Array.getElem?_eq_none (by rw [h.size]; omega), Array.getElem?_eq_none (by simp; omega)]

set_option maxHeartbeats 400000 in
theorem f6_nil (w : World) : Calls Try.prog 6 #[.slice none 0 0] w fun e w' => e = .returned (.slice none 0 0) ∧ w' = w := by
  have hne := fun w => Lib.run_eql_slice_nil (P := Try.prog) w 22 5 none 0 0 0 0 Try.underlying22
  go_enter Try.func6, Try.ntmps6
  go_wp2
  go_ret
  exact ⟨rfl, rfl⟩

set_option maxHeartbeats 400000 in
theorem f6_zero (x : Addr) (c : Nat) (w : World) : Calls Try.prog 6 #[.slice (some x) 0 c] w fun e w' => e = .returned (.slice (some ⟨w.heap.size, 0, none⟩) 0 0) ∧ w' = w.alloc (.cells #[] 5) := by
  have hne := fun w => Lib.run_eql_slice_nil (P := Try.prog) w 22 5 (some x) 0 c 0 0 Try.underlying22
  have hmk : ∀ w, (Instr.makeSlice 22 (.int .i64 0) (.int .i64 0)).run Try.prog w = .ok (.slice (some ⟨w.heap.size, 0, none⟩) 0 0) (w.alloc (.cells #[] 5)) := by
    intro w
    have h := mk22 0 (by omega) w
    rw [show madeCells #[.int .u8 0] 0 = #[] from Array.eq_empty_of_size_eq_zero (size_madeCells _ _)] at h
    exact h
  go_enter Try.func6, Try.ntmps6
  go_wp2
  refine wp_loop_rounds 1 ?_
  rw [rounds_succ]
  go_wp2
  go_ret
  exact ⟨rfl, rfl⟩

set_option maxHeartbeats 400000 in
theorem f6_some (b off n c : Nat) (s : List UInt8) (w : World) (hn : s.length = n) (hs : n ≤ 1048576) (hx : ∀ i, i < n → w.cell? ⟨b, off + i, none⟩ = some (.int .u8 (s.getD i 0).toNat)) :
    Calls Try.prog 6 #[.slice (some ⟨b, off, none⟩) n c] w fun e w' => e = .returned (.slice (some ⟨w.heap.size, 0, none⟩) n n) ∧ w' = w.alloc (.cells (Lib.byteCells s).toArray 5) := by
  have hne := fun w => Lib.run_eql_slice_nil (P := Try.prog) w 22 5 (some ⟨b, off, none⟩) n c 0 0 Try.underlying22
  have hmk := mk22 n hs
  have HX : Hid (∀ i, i < n → w.cell? ⟨b, off + i, none⟩ = some (.int .u8 (s.getD i 0).toNat)) := hx
  have HN : Hid (s.length = n) := hn
  have hxl : (Lib.byteCells s).length = n := by rw [Lib.byteCells_length]; exact hn
  have HXL : Hid ((Lib.byteCells s).length = n) := hxl
  clear hx hn hxl
  go_enter Try.func6, Try.ntmps6
  go_wp2
  clear hne hmk
  go_loopw [4] (fun s4 wr => ∃ (k : Nat) (cur : Array Value), k ≤ n ∧ s4 = .int .i64 k ∧ Hid (Half (Lib.byteCells s) k cur) ∧ wr = w.alloc (.cells cur 5)) (fun s4 wr => n - (intOf s4).toNat)
  case atStart => exact ⟨0, _, Nat.zero_le _, rfl, ⟨by rw [HXL.out]; simp [size_madeCells], fun i h => absurd h (Nat.not_lt_zero _)⟩, rfl⟩
  case round =>
    obtain ⟨k, cur, hk, rfl, HH, rfl⟩ := hrel
    by_cases hkn : k < n
    · have c1 := HX.out k hkn
      have hlt := World.block_lt_of_cell? w _ c1
      have c2 : ∀ o, (w.alloc o).cell? ⟨b, off + k, none⟩ = some (.int .u8 (s.getD k 0).toNat) := fun o => (World.cell?_alloc_lt _ _ _ hlt).trans c1
      have hcs : k < cur.size := by rw [HH.out.size, HXL.out]; exact hkn
      have hgx : (Lib.byteCells s)[k]? = some (.int .u8 (s.getD k 0).toNat) := by
        have : k < s.length := by rw [HN.out]; exact hkn
        simp [Lib.byteCells, List.getD, this]
      have HST := HH.out.step (by rw [HXL.out]; exact hkn) _ hgx
      generalize (s.getD k 0).toNat = y at c1 c2 HST hgx
      have HS2 : Hid (Half (Lib.byteCells s) (k + 1) (cur.setIfInBounds k (.int .u8 y))) := HST
      have c3 : cur[k]? = some cur[k] := Array.getElem?_eq_getElem hcs
      clear HST hgx c1
      simp only [] at hlt
      go_wp2
      go_roundw
      case rel => exact ⟨k + 1, _, by omega, by go_num, HS2, rfl⟩
      case measure => simp [intOf]; omega
    · obtain rfl : k = n := by omega
      go_wp2
      go_ret
      have e : cur = (Lib.byteCells s).toArray := Half.full (by rw [HXL.out]; exact HH.out)
      rw [e]
      exact ⟨rfl, rfl⟩

set_option maxHeartbeats 400000 in
theorem f12_nil (w : World) : Calls Try.prog 12 #[.slice none 0 0] w fun e w' => e = .returned (.slice none 0 0) ∧ w' = w := by
  have hne := fun w => Lib.run_eql_slice_nil (P := Try.prog) w 34 23 none 0 0 0 0 Try.underlying34
  go_enter Try.func12, Try.ntmps12
  go_wp2
  go_ret
  exact ⟨rfl, rfl⟩

set_option maxHeartbeats 400000 in
theorem f12_zero (x : Addr) (c : Nat) (w : World) : Calls Try.prog 12 #[.slice (some x) 0 c] w fun e w' => e = .returned (.slice (some ⟨w.heap.size, 0, none⟩) 0 0) ∧ w' = w.alloc (.cells #[] 23) := by
  have hne := fun w => Lib.run_eql_slice_nil (P := Try.prog) w 34 23 (some x) 0 c 0 0 Try.underlying34
  have hmk : ∀ w, (Instr.makeSlice 34 (.int .i64 0) (.int .i64 0)).run Try.prog w = .ok (.slice (some ⟨w.heap.size, 0, none⟩) 0 0) (w.alloc (.cells #[] 23)) := by
    intro w
    have h := mk34 0 (by omega) w
    rw [show madeCells #[.int .u64 0] 0 = #[] from Array.eq_empty_of_size_eq_zero (size_madeCells _ _)] at h
    exact h
  go_enter Try.func12, Try.ntmps12
  go_wp2
  refine wp_loop_rounds 1 ?_
  rw [rounds_succ]
  go_wp2
  go_ret
  exact ⟨rfl, rfl⟩

set_option maxHeartbeats 400000 in
theorem f12_some (b off n c : Nat) (s : List Int) (w : World) (hn : s.length = n) (hs : n ≤ 1048576) (hx : ∀ i, i < n → w.cell? ⟨b, off + i, none⟩ = some (.int .u64 (s.getD i 0))) :
    Calls Try.prog 12 #[.slice (some ⟨b, off, none⟩) n c] w fun e w' => e = .returned (.slice (some ⟨w.heap.size, 0, none⟩) n n) ∧ w' = w.alloc (.cells (s.map (Value.int .u64)).toArray 23) := by
  have hne := fun w => Lib.run_eql_slice_nil (P := Try.prog) w 34 23 (some ⟨b, off, none⟩) n c 0 0 Try.underlying34
  have hmk := mk34 n hs
  have HX : Hid (∀ i, i < n → w.cell? ⟨b, off + i, none⟩ = some (.int .u64 (s.getD i 0))) := hx
  have HN : Hid (s.length = n) := hn
  have hxl : (s.map (Value.int .u64)).length = n := by rw [List.length_map]; exact hn
  have HXL : Hid ((s.map (Value.int .u64)).length = n) := hxl
  clear hx hn hxl
  go_enter Try.func12, Try.ntmps12
  go_wp2
  clear hne hmk
  go_loopw [4] (fun s4 wr => ∃ (k : Nat) (cur : Array Value), k ≤ n ∧ s4 = .int .i64 k ∧ Hid (Half (s.map (Value.int .u64)) k cur) ∧ wr = w.alloc (.cells cur 23)) (fun s4 wr => n - (intOf s4).toNat)
  case atStart => exact ⟨0, _, Nat.zero_le _, rfl, ⟨by rw [HXL.out]; simp [size_madeCells], fun i h => absurd h (Nat.not_lt_zero _)⟩, rfl⟩
  case round =>
    obtain ⟨k, cur, hk, rfl, HH, rfl⟩ := hrel
    by_cases hkn : k < n
    · have c1 := HX.out k hkn
      have hlt := World.block_lt_of_cell? w _ c1
      have c2 : ∀ o, (w.alloc o).cell? ⟨b, off + k, none⟩ = some (.int .u64 (s.getD k 0)) := fun o => (World.cell?_alloc_lt _ _ _ hlt).trans c1
      have hcs : k < cur.size := by rw [HH.out.size, HXL.out]; exact hkn
      have hgx : (s.map (Value.int .u64))[k]? = some (.int .u64 (s.getD k 0)) := by
        have : k < s.length := by rw [HN.out]; exact hkn
        simp [List.getD, this]
      have HST := HH.out.step (by rw [HXL.out]; exact hkn) _ hgx
      generalize (s.getD k 0) = y at c1 c2 HST hgx
      have HS2 : Hid (Half (s.map (Value.int .u64)) (k + 1) (cur.setIfInBounds k (.int .u64 y))) := HST
      have c3 : cur[k]? = some cur[k] := Array.getElem?_eq_getElem hcs
      clear HST hgx c1
      simp only [] at hlt
      go_wp2
      go_roundw
      case rel => exact ⟨k + 1, _, by omega, by go_num, HS2, rfl⟩
      case measure => simp [intOf]; omega
    · obtain rfl : k = n := by omega
      go_wp2
      go_ret
      have e : cur = (s.map (Value.int .u64)).toArray := Half.full (by rw [HXL.out]; exact HH.out)
      rw [e]
      exact ⟨rfl, rfl⟩

end Go.Proofs.Qxb6614913a
