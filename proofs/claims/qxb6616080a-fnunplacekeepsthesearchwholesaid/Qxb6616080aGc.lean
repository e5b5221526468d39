import Derived.Test.Qxb6616080aF7b
import Derived.Lib.SliceRun
import Derived.Test.Qxb6616080aF18
namespace Go.Proofs.Qxb6616080a
open Go.RowKit
set_option linter.unusedVariables false
set_option linter.unusedSimpArgs false
set_option maxRecDepth 100000

/-- A clone: nil, or a new row. -/
structure Cl (w w' : World) (a' : Option Addr) (n c' : Nat) (ty : TypeId) (v : Nat → Value) : Prop where
  bel : Below w.heap.size w w'
  or : (a' = none ∧ n = 0 ∧ c' = 0 ∧ w' = w) ∨ (a' = some ⟨w.heap.size, 0, none⟩ ∧ c' = n ∧ Arr w' w.heap.size n ty v ∧ w'.heap.size = w.heap.size + 1)

theorem Try.info28 : (Try.prog.info? 28).map (fun i => (i.zero, i.size, i.bytes)) = some (some (.int .u64 0), 1, 8) := by kernel_rfl
theorem mk44 (n : Nat) (hn : n ≤ 1048576) (w : World) : (Instr.makeSlice 44 (.int .i64 (n : Int)) (.int .i64 (n : Int))).run Try.prog w = .ok (.slice (some ⟨w.heap.size, 0, none⟩) n n) (w.alloc (.cells (madeCells #[.int .u64 0] n) 28)) := by
  obtain ⟨i, hi, hz, hs, hb⟩ := info_parts Try.info28
  have hr := run_make (P := Try.prog) w 44 28 i _ Try.underlying44 hi hz .i64 .i64 n n (by omega) (Int.le_refl _) (by rw [hb]; omega) (by omega)
  simpa [hs, Value.cells] using hr

set_option maxHeartbeats 1000000 in
theorem f22_to (a : Option Addr) (b o c n : Nat) (d : Nat → Int) (w : World) (hn : n ≤ 1048576) (hz : a = none → n = 0 ∧ c = 0) (ha : 0 < n → a = some ⟨b, o, none⟩) (hd : ∀ j, j < n → w.cell? ⟨b, o + j, none⟩ = some (.int .i32 (d j))) :
    Calls Try.prog 22 #[.slice a n c] w fun e w' => ∃ a' c', e = .returned (.slice a' n c') ∧ Cl w w' a' n c' 21 (fun j => .int .i32 (d j)) := by
  cases a with
  | none =>
    obtain ⟨rfl, rfl⟩ := hz rfl
    have hnil := fun w => Lib.run_eql_slice_nil (P := Try.prog) w 26 21 none 0 0 0 0 Try.underlying26
    go_enter Try.func22, Try.ntmps22
    go_wp2
    go_ret
    exact ⟨none, 0, rfl, Below.refl _ _, .inl ⟨rfl, rfl, rfl, rfl⟩⟩
  | some ad =>
    have hlt : ∀ j, j < n → b < w.heap.size := fun j hj => World.block_lt_of_cell? w _ (hd j hj)
    refine enter_f Try.func22 rfl Try.ntmps22 (by simp) fun a hD hV0 => ?_
    have hfs := fset_at
    obtain ⟨f, hf⟩ : ∃ f : Nat → Value, f = fun j => (#[.slice (some ad) n c] : Array Value).getD j undef := ⟨_, rfl⟩
    have h0 : f 0 = .slice (some ad) n c := by rw [hf]; rfl
    have hV : ∀ j, j < 24 → a.tmps[j]? = some (f j) := fun j hj => by rw [hV0 j hj, hf]
    have hmk := mk26 n hn w
    have hnil := fun w => Lib.run_eql_slice_nil (P := Try.prog) w 26 21 (some ad) n c 0 0 Try.underlying26
    have HA := hide ha
    have HD := hide hd
    have HLT := hide hlt
    obtain ⟨w0, hw0⟩ : ∃ w0, w.alloc (.cells (madeCells #[.int .i32 0] n) 21) = w0 := ⟨_, rfl⟩
    have HO : Hid (Own w.heap.size w0 w.heap.size n 21 (fun _ => .int .i32 0)) := hw0 ▸ Own.new _ _ _ _ (Nat.le_refl _)
    have HB : Hid (Below w.heap.size w w0) := hw0 ▸ (Below.refl _ _).alloc (Nat.le_refl _) _
    have HSZ : Hid (w0.heap.size = w.heap.size + 1) := by rw [← hw0]; simp [Hid]
    rw [hw0] at hmk
    clear hf hV0 ha hd hlt
    repeat (first
      | (refine wpList_put hD hV ?hd ?_; (case hd => decide); clear hD hV; (try clear a); intro a hD hV)
      | ((first | refine wpList_plain rfl (fun K hK => ?_) | refine wpList_step (fun K hK => ?_)); go_simp; refine hK _ _ ?_; clear hK K)
      | (refine wp_cond_true ?hc ?_; (case hc => simp [Act.eval, hV, hfs]; done))
      | (refine wp_cond_false ?hc ?_; (case hc => simp [Act.eval, hV, hfs]; done))
      | go_step)
    generalize hg : w.heap.size = g at *
    refine wp_loop_f (N := 24) (fun m f w' => ∃ k, k ≤ n ∧ m = n - k ∧ f 4 = .int .i64 (k : Nat) ∧ f 0 = .slice (some ad) n c ∧ f 3 = .slice (some ⟨g, 0, none⟩) n n ∧ Below g w w' ∧ w'.heap.size = g + 1 ∧ Own g w' g n 21 (fun j => if j < k then .int .i32 (d j) else .int .i32 0)) n hD hV
      ⟨0, by omega, by omega, by simp [hfs], by simp [hfs, h0], by simp [hfs], HB.out, HSZ.out, by simpa using HO.out⟩ ?_
    clear h0 hD hV a f HO HB HSZ hmk
    intro m f w' a hD hV ⟨k, hk, hm', h4, h0, h3, hbel, hsz, ho⟩ K hK
    have HO := hide ho
    have HB := hide hbel
    have HK := hide hK
    clear ho hbel hK
    by_cases hkn : k < n
    · have c1 := HO.out.arr.cell hkn
      have c2 := HO.out.arr.frozen k
      simp only [Nat.lt_irrefl, if_false] at c1
      have had := HA.out (by omega)
      have e4 : IntKind.i64.wrap ((k : Int) + 1) = (k : Int) + 1 := w64' (by unfold i64; omega)
      have cc : w'.cell? ⟨b, o + k, none⟩ = some (.int .i32 (d k)) := (HB.out.cell (p := ⟨b, o + k, none⟩) (by show b < g; have := HLT.out k hkn; omega)).trans (HD.out k hkn)
      simp only [Option.some.injEq] at had
      subst had
      repeat (first
        | (refine wpList_put hD hV ?hd ?_; (case hd => decide); clear hD hV; (try clear a); intro a hD hV)
        | ((first | refine wpList_plain rfl (fun K hK => ?_) | refine wpList_step (fun K hK => ?_)); go_simp; refine hK _ _ ?_; clear hK K)
        | (refine wp_cond_true ?hc ?_; (case hc => simp [Act.eval, hV, hfs]; done))
        | (refine wp_cond_false ?hc ?_; (case hc => simp [Act.eval, hV, hfs]; done))
        | go_step)
      exact HK.out a _ _ (n - (k + 1)) hD hV (by omega) ⟨k + 1, by omega, rfl, by simp [hfs], by simp [hfs, h0], by simp [hfs, h3], HB.out.setCell (Nat.le_refl _) _, by simpa using hsz, (HO.out.set hkn _).congr (fun j hj => by
        unfold fset
        by_cases e : j = k
        · subst e; simp
        · rw [if_neg e]
          dsimp only
          by_cases e2 : j < k
          · rw [if_pos e2, if_pos (by omega)]
          · rw [if_neg e2, if_neg (by omega)])⟩
    · repeat (first
        | (refine wpList_put hD hV ?hd ?_; (case hd => decide); clear hD hV; (try clear a); intro a hD hV)
        | ((first | refine wpList_plain rfl (fun K hK => ?_) | refine wpList_step (fun K hK => ?_)); go_simp; refine hK _ _ ?_; clear hK K)
        | (refine wp_cond_true ?hc ?_; (case hc => simp [Act.eval, hV, hfs]; done))
        | (refine wp_cond_false ?hc ?_; (case hc => simp [Act.eval, hV, hfs]; done))
        | go_step)
      refine ret_f (N := 24) (s := 2) rfl hD hV (by omega) ⟨some ⟨w.heap.size, 0, none⟩, n, by simp [hfs, hg], hg ▸ HB.out, .inr ⟨rfl, rfl, ?_, by rw [hg]; exact hsz⟩⟩
      rw [hg]
      exact (HO.out.congr (fun j hj => by rw [if_pos (by omega)])).arr

set_option maxHeartbeats 1000000 in
theorem f20_to (a : Option Addr) (b o c n : Nat) (d : Nat → Int) (w : World) (hn : n ≤ 1048576) (hz : a = none → n = 0 ∧ c = 0) (ha : 0 < n → a = some ⟨b, o, none⟩) (hd : ∀ j, j < n → w.cell? ⟨b, o + j, none⟩ = some (.int .i64 (d j))) :
    Calls Try.prog 20 #[.slice a n c] w fun e w' => ∃ a' c', e = .returned (.slice a' n c') ∧ Cl w w' a' n c' 3 (fun j => .int .i64 (d j)) := by
  cases a with
  | none =>
    obtain ⟨rfl, rfl⟩ := hz rfl
    have hnil := fun w => Lib.run_eql_slice_nil (P := Try.prog) w 24 3 none 0 0 0 0 Try.underlying24
    go_enter Try.func20, Try.ntmps20
    go_wp2
    go_ret
    exact ⟨none, 0, rfl, Below.refl _ _, .inl ⟨rfl, rfl, rfl, rfl⟩⟩
  | some ad =>
    have hlt : ∀ j, j < n → b < w.heap.size := fun j hj => World.block_lt_of_cell? w _ (hd j hj)
    refine enter_f Try.func20 rfl Try.ntmps20 (by simp) fun a hD hV0 => ?_
    have hfs := fset_at
    obtain ⟨f, hf⟩ : ∃ f : Nat → Value, f = fun j => (#[.slice (some ad) n c] : Array Value).getD j undef := ⟨_, rfl⟩
    have h0 : f 0 = .slice (some ad) n c := by rw [hf]; rfl
    have hV : ∀ j, j < 24 → a.tmps[j]? = some (f j) := fun j hj => by rw [hV0 j hj, hf]
    have hmk := mk24 n hn w
    have hnil := fun w => Lib.run_eql_slice_nil (P := Try.prog) w 24 3 (some ad) n c 0 0 Try.underlying24
    have HA := hide ha
    have HD := hide hd
    have HLT := hide hlt
    obtain ⟨w0, hw0⟩ : ∃ w0, w.alloc (.cells (madeCells #[.int .i64 0] n) 3) = w0 := ⟨_, rfl⟩
    have HO : Hid (Own w.heap.size w0 w.heap.size n 3 (fun _ => .int .i64 0)) := hw0 ▸ Own.new _ _ _ _ (Nat.le_refl _)
    have HB : Hid (Below w.heap.size w w0) := hw0 ▸ (Below.refl _ _).alloc (Nat.le_refl _) _
    have HSZ : Hid (w0.heap.size = w.heap.size + 1) := by rw [← hw0]; simp [Hid]
    rw [hw0] at hmk
    clear hf hV0 ha hd hlt
    repeat (first
      | (refine wpList_put hD hV ?hd ?_; (case hd => decide); clear hD hV; (try clear a); intro a hD hV)
      | ((first | refine wpList_plain rfl (fun K hK => ?_) | refine wpList_step (fun K hK => ?_)); go_simp; refine hK _ _ ?_; clear hK K)
      | (refine wp_cond_true ?hc ?_; (case hc => simp [Act.eval, hV, hfs]; done))
      | (refine wp_cond_false ?hc ?_; (case hc => simp [Act.eval, hV, hfs]; done))
      | go_step)
    generalize hg : w.heap.size = g at *
    refine wp_loop_f (N := 24) (fun m f w' => ∃ k, k ≤ n ∧ m = n - k ∧ f 4 = .int .i64 (k : Nat) ∧ f 0 = .slice (some ad) n c ∧ f 3 = .slice (some ⟨g, 0, none⟩) n n ∧ Below g w w' ∧ w'.heap.size = g + 1 ∧ Own g w' g n 3 (fun j => if j < k then .int .i64 (d j) else .int .i64 0)) n hD hV
      ⟨0, by omega, by omega, by simp [hfs], by simp [hfs, h0], by simp [hfs], HB.out, HSZ.out, by simpa using HO.out⟩ ?_
    clear h0 hD hV a f HO HB HSZ hmk
    intro m f w' a hD hV ⟨k, hk, hm', h4, h0, h3, hbel, hsz, ho⟩ K hK
    have HO := hide ho
    have HB := hide hbel
    have HK := hide hK
    clear ho hbel hK
    by_cases hkn : k < n
    · have c1 := HO.out.arr.cell hkn
      have c2 := HO.out.arr.frozen k
      simp only [Nat.lt_irrefl, if_false] at c1
      have had := HA.out (by omega)
      have e4 : IntKind.i64.wrap ((k : Int) + 1) = (k : Int) + 1 := w64' (by unfold i64; omega)
      have cc : w'.cell? ⟨b, o + k, none⟩ = some (.int .i64 (d k)) := (HB.out.cell (p := ⟨b, o + k, none⟩) (by show b < g; have := HLT.out k hkn; omega)).trans (HD.out k hkn)
      simp only [Option.some.injEq] at had
      subst had
      repeat (first
        | (refine wpList_put hD hV ?hd ?_; (case hd => decide); clear hD hV; (try clear a); intro a hD hV)
        | ((first | refine wpList_plain rfl (fun K hK => ?_) | refine wpList_step (fun K hK => ?_)); go_simp; refine hK _ _ ?_; clear hK K)
        | (refine wp_cond_true ?hc ?_; (case hc => simp [Act.eval, hV, hfs]; done))
        | (refine wp_cond_false ?hc ?_; (case hc => simp [Act.eval, hV, hfs]; done))
        | go_step)
      exact HK.out a _ _ (n - (k + 1)) hD hV (by omega) ⟨k + 1, by omega, rfl, by simp [hfs], by simp [hfs, h0], by simp [hfs, h3], HB.out.setCell (Nat.le_refl _) _, by simpa using hsz, (HO.out.set hkn _).congr (fun j hj => by
        unfold fset
        by_cases e : j = k
        · subst e; simp
        · rw [if_neg e]
          dsimp only
          by_cases e2 : j < k
          · rw [if_pos e2, if_pos (by omega)]
          · rw [if_neg e2, if_neg (by omega)])⟩
    · repeat (first
        | (refine wpList_put hD hV ?hd ?_; (case hd => decide); clear hD hV; (try clear a); intro a hD hV)
        | ((first | refine wpList_plain rfl (fun K hK => ?_) | refine wpList_step (fun K hK => ?_)); go_simp; refine hK _ _ ?_; clear hK K)
        | (refine wp_cond_true ?hc ?_; (case hc => simp [Act.eval, hV, hfs]; done))
        | (refine wp_cond_false ?hc ?_; (case hc => simp [Act.eval, hV, hfs]; done))
        | go_step)
      refine ret_f (N := 24) (s := 2) rfl hD hV (by omega) ⟨some ⟨w.heap.size, 0, none⟩, n, by simp [hfs, hg], hg ▸ HB.out, .inr ⟨rfl, rfl, ?_, by rw [hg]; exact hsz⟩⟩
      rw [hg]
      exact (HO.out.congr (fun j hj => by rw [if_pos (by omega)])).arr

set_option maxHeartbeats 1000000 in
theorem f21_to (a : Option Addr) (b o c n : Nat) (d : Nat → Bool) (w : World) (hn : n ≤ 1048576) (hz : a = none → n = 0 ∧ c = 0) (ha : 0 < n → a = some ⟨b, o, none⟩) (hd : ∀ j, j < n → w.cell? ⟨b, o + j, none⟩ = some (.bool (d j))) :
    Calls Try.prog 21 #[.slice a n c] w fun e w' => ∃ a' c', e = .returned (.slice a' n c') ∧ Cl w w' a' n c' 4 (fun j => .bool (d j)) := by
  cases a with
  | none =>
    obtain ⟨rfl, rfl⟩ := hz rfl
    have hnil := fun w => Lib.run_eql_slice_nil (P := Try.prog) w 25 4 none 0 0 0 0 Try.underlying25
    go_enter Try.func21, Try.ntmps21
    go_wp2
    go_ret
    exact ⟨none, 0, rfl, Below.refl _ _, .inl ⟨rfl, rfl, rfl, rfl⟩⟩
  | some ad =>
    have hlt : ∀ j, j < n → b < w.heap.size := fun j hj => World.block_lt_of_cell? w _ (hd j hj)
    refine enter_f Try.func21 rfl Try.ntmps21 (by simp) fun a hD hV0 => ?_
    have hfs := fset_at
    obtain ⟨f, hf⟩ : ∃ f : Nat → Value, f = fun j => (#[.slice (some ad) n c] : Array Value).getD j undef := ⟨_, rfl⟩
    have h0 : f 0 = .slice (some ad) n c := by rw [hf]; rfl
    have hV : ∀ j, j < 24 → a.tmps[j]? = some (f j) := fun j hj => by rw [hV0 j hj, hf]
    have hmk := mk25 n hn w
    have hnil := fun w => Lib.run_eql_slice_nil (P := Try.prog) w 25 4 (some ad) n c 0 0 Try.underlying25
    have HA := hide ha
    have HD := hide hd
    have HLT := hide hlt
    obtain ⟨w0, hw0⟩ : ∃ w0, w.alloc (.cells (madeCells #[.bool false] n) 4) = w0 := ⟨_, rfl⟩
    have HO : Hid (Own w.heap.size w0 w.heap.size n 4 (fun _ => .bool false)) := hw0 ▸ Own.new _ _ _ _ (Nat.le_refl _)
    have HB : Hid (Below w.heap.size w w0) := hw0 ▸ (Below.refl _ _).alloc (Nat.le_refl _) _
    have HSZ : Hid (w0.heap.size = w.heap.size + 1) := by rw [← hw0]; simp [Hid]
    rw [hw0] at hmk
    clear hf hV0 ha hd hlt
    repeat (first
      | (refine wpList_put hD hV ?hd ?_; (case hd => decide); clear hD hV; (try clear a); intro a hD hV)
      | ((first | refine wpList_plain rfl (fun K hK => ?_) | refine wpList_step (fun K hK => ?_)); go_simp; refine hK _ _ ?_; clear hK K)
      | (refine wp_cond_true ?hc ?_; (case hc => simp [Act.eval, hV, hfs]; done))
      | (refine wp_cond_false ?hc ?_; (case hc => simp [Act.eval, hV, hfs]; done))
      | go_step)
    generalize hg : w.heap.size = g at *
    refine wp_loop_f (N := 24) (fun m f w' => ∃ k, k ≤ n ∧ m = n - k ∧ f 4 = .int .i64 (k : Nat) ∧ f 0 = .slice (some ad) n c ∧ f 3 = .slice (some ⟨g, 0, none⟩) n n ∧ Below g w w' ∧ w'.heap.size = g + 1 ∧ Own g w' g n 4 (fun j => if j < k then .bool (d j) else .bool false)) n hD hV
      ⟨0, by omega, by omega, by simp [hfs], by simp [hfs, h0], by simp [hfs], HB.out, HSZ.out, by simpa using HO.out⟩ ?_
    clear h0 hD hV a f HO HB HSZ hmk
    intro m f w' a hD hV ⟨k, hk, hm', h4, h0, h3, hbel, hsz, ho⟩ K hK
    have HO := hide ho
    have HB := hide hbel
    have HK := hide hK
    clear ho hbel hK
    by_cases hkn : k < n
    · have c1 := HO.out.arr.cell hkn
      have c2 := HO.out.arr.frozen k
      simp only [Nat.lt_irrefl, if_false] at c1
      have had := HA.out (by omega)
      have e4 : IntKind.i64.wrap ((k : Int) + 1) = (k : Int) + 1 := w64' (by unfold i64; omega)
      have cc : w'.cell? ⟨b, o + k, none⟩ = some (.bool (d k)) := (HB.out.cell (p := ⟨b, o + k, none⟩) (by show b < g; have := HLT.out k hkn; omega)).trans (HD.out k hkn)
      simp only [Option.some.injEq] at had
      subst had
      repeat (first
        | (refine wpList_put hD hV ?hd ?_; (case hd => decide); clear hD hV; (try clear a); intro a hD hV)
        | ((first | refine wpList_plain rfl (fun K hK => ?_) | refine wpList_step (fun K hK => ?_)); go_simp; refine hK _ _ ?_; clear hK K)
        | (refine wp_cond_true ?hc ?_; (case hc => simp [Act.eval, hV, hfs]; done))
        | (refine wp_cond_false ?hc ?_; (case hc => simp [Act.eval, hV, hfs]; done))
        | go_step)
      exact HK.out a _ _ (n - (k + 1)) hD hV (by omega) ⟨k + 1, by omega, rfl, by simp [hfs], by simp [hfs, h0], by simp [hfs, h3], HB.out.setCell (Nat.le_refl _) _, by simpa using hsz, (HO.out.set hkn _).congr (fun j hj => by
        unfold fset
        by_cases e : j = k
        · subst e; simp
        · rw [if_neg e]
          dsimp only
          by_cases e2 : j < k
          · rw [if_pos e2, if_pos (by omega)]
          · rw [if_neg e2, if_neg (by omega)])⟩
    · repeat (first
        | (refine wpList_put hD hV ?hd ?_; (case hd => decide); clear hD hV; (try clear a); intro a hD hV)
        | ((first | refine wpList_plain rfl (fun K hK => ?_) | refine wpList_step (fun K hK => ?_)); go_simp; refine hK _ _ ?_; clear hK K)
        | (refine wp_cond_true ?hc ?_; (case hc => simp [Act.eval, hV, hfs]; done))
        | (refine wp_cond_false ?hc ?_; (case hc => simp [Act.eval, hV, hfs]; done))
        | go_step)
      refine ret_f (N := 24) (s := 2) rfl hD hV (by omega) ⟨some ⟨w.heap.size, 0, none⟩, n, by simp [hfs, hg], hg ▸ HB.out, .inr ⟨rfl, rfl, ?_, by rw [hg]; exact hsz⟩⟩
      rw [hg]
      exact (HO.out.congr (fun j hj => by rw [if_pos (by omega)])).arr

set_option maxHeartbeats 1000000 in
theorem f29_to (a : Option Addr) (b o c n : Nat) (d : Nat → Nat) (w : World) (hn : n ≤ 1048576) (hz : a = none → n = 0 ∧ c = 0) (ha : 0 < n → a = some ⟨b, o, none⟩) (hd : ∀ j, j < n → w.cell? ⟨b, o + j, none⟩ = some (.int .u64 (d j : Nat))) :
    Calls Try.prog 29 #[.slice a n c] w fun e w' => ∃ a' c', e = .returned (.slice a' n c') ∧ Cl w w' a' n c' 28 (fun j => .int .u64 (d j : Nat)) := by
  cases a with
  | none =>
    obtain ⟨rfl, rfl⟩ := hz rfl
    have hnil := fun w => Lib.run_eql_slice_nil (P := Try.prog) w 44 28 none 0 0 0 0 Try.underlying44
    go_enter Try.func29, Try.ntmps29
    go_wp2
    go_ret
    exact ⟨none, 0, rfl, Below.refl _ _, .inl ⟨rfl, rfl, rfl, rfl⟩⟩
  | some ad =>
    have hlt : ∀ j, j < n → b < w.heap.size := fun j hj => World.block_lt_of_cell? w _ (hd j hj)
    refine enter_f Try.func29 rfl Try.ntmps29 (by simp) fun a hD hV0 => ?_
    have hfs := fset_at
    obtain ⟨f, hf⟩ : ∃ f : Nat → Value, f = fun j => (#[.slice (some ad) n c] : Array Value).getD j undef := ⟨_, rfl⟩
    have h0 : f 0 = .slice (some ad) n c := by rw [hf]; rfl
    have hV : ∀ j, j < 24 → a.tmps[j]? = some (f j) := fun j hj => by rw [hV0 j hj, hf]
    have hmk := mk44 n hn w
    have hnil := fun w => Lib.run_eql_slice_nil (P := Try.prog) w 44 28 (some ad) n c 0 0 Try.underlying44
    have HA := hide ha
    have HD := hide hd
    have HLT := hide hlt
    obtain ⟨w0, hw0⟩ : ∃ w0, w.alloc (.cells (madeCells #[.int .u64 0] n) 28) = w0 := ⟨_, rfl⟩
    have HO : Hid (Own w.heap.size w0 w.heap.size n 28 (fun _ => .int .u64 0)) := hw0 ▸ Own.new _ _ _ _ (Nat.le_refl _)
    have HB : Hid (Below w.heap.size w w0) := hw0 ▸ (Below.refl _ _).alloc (Nat.le_refl _) _
    have HSZ : Hid (w0.heap.size = w.heap.size + 1) := by rw [← hw0]; simp [Hid]
    rw [hw0] at hmk
    clear hf hV0 ha hd hlt
    repeat (first
      | (refine wpList_put hD hV ?hd ?_; (case hd => decide); clear hD hV; (try clear a); intro a hD hV)
      | ((first | refine wpList_plain rfl (fun K hK => ?_) | refine wpList_step (fun K hK => ?_)); go_simp; refine hK _ _ ?_; clear hK K)
      | (refine wp_cond_true ?hc ?_; (case hc => simp [Act.eval, hV, hfs]; done))
      | (refine wp_cond_false ?hc ?_; (case hc => simp [Act.eval, hV, hfs]; done))
      | go_step)
    generalize hg : w.heap.size = g at *
    refine wp_loop_f (N := 24) (fun m f w' => ∃ k, k ≤ n ∧ m = n - k ∧ f 4 = .int .i64 (k : Nat) ∧ f 0 = .slice (some ad) n c ∧ f 3 = .slice (some ⟨g, 0, none⟩) n n ∧ Below g w w' ∧ w'.heap.size = g + 1 ∧ Own g w' g n 28 (fun j => if j < k then .int .u64 (d j : Nat) else .int .u64 0)) n hD hV
      ⟨0, by omega, by omega, by simp [hfs], by simp [hfs, h0], by simp [hfs], HB.out, HSZ.out, by simpa using HO.out⟩ ?_
    clear h0 hD hV a f HO HB HSZ hmk
    intro m f w' a hD hV ⟨k, hk, hm', h4, h0, h3, hbel, hsz, ho⟩ K hK
    have HO := hide ho
    have HB := hide hbel
    have HK := hide hK
    clear ho hbel hK
    by_cases hkn : k < n
    · have c1 := HO.out.arr.cell hkn
      have c2 := HO.out.arr.frozen k
      simp only [Nat.lt_irrefl, if_false] at c1
      have had := HA.out (by omega)
      have e4 : IntKind.i64.wrap ((k : Int) + 1) = (k : Int) + 1 := w64' (by unfold i64; omega)
      have cc : w'.cell? ⟨b, o + k, none⟩ = some (.int .u64 (d k : Nat)) := (HB.out.cell (p := ⟨b, o + k, none⟩) (by show b < g; have := HLT.out k hkn; omega)).trans (HD.out k hkn)
      simp only [Option.some.injEq] at had
      subst had
      repeat (first
        | (refine wpList_put hD hV ?hd ?_; (case hd => decide); clear hD hV; (try clear a); intro a hD hV)
        | ((first | refine wpList_plain rfl (fun K hK => ?_) | refine wpList_step (fun K hK => ?_)); go_simp; refine hK _ _ ?_; clear hK K)
        | (refine wp_cond_true ?hc ?_; (case hc => simp [Act.eval, hV, hfs]; done))
        | (refine wp_cond_false ?hc ?_; (case hc => simp [Act.eval, hV, hfs]; done))
        | go_step)
      exact HK.out a _ _ (n - (k + 1)) hD hV (by omega) ⟨k + 1, by omega, rfl, by simp [hfs], by simp [hfs, h0], by simp [hfs, h3], HB.out.setCell (Nat.le_refl _) _, by simpa using hsz, (HO.out.set hkn _).congr (fun j hj => by
        unfold fset
        by_cases e : j = k
        · subst e; simp
        · rw [if_neg e]
          dsimp only
          by_cases e2 : j < k
          · rw [if_pos e2, if_pos (by omega)]
          · rw [if_neg e2, if_neg (by omega)])⟩
    · repeat (first
        | (refine wpList_put hD hV ?hd ?_; (case hd => decide); clear hD hV; (try clear a); intro a hD hV)
        | ((first | refine wpList_plain rfl (fun K hK => ?_) | refine wpList_step (fun K hK => ?_)); go_simp; refine hK _ _ ?_; clear hK K)
        | (refine wp_cond_true ?hc ?_; (case hc => simp [Act.eval, hV, hfs]; done))
        | (refine wp_cond_false ?hc ?_; (case hc => simp [Act.eval, hV, hfs]; done))
        | go_step)
      refine ret_f (N := 24) (s := 2) rfl hD hV (by omega) ⟨some ⟨w.heap.size, 0, none⟩, n, by simp [hfs, hg], hg ▸ HB.out, .inr ⟨rfl, rfl, ?_, by rw [hg]; exact hsz⟩⟩
      rw [hg]
      exact (HO.out.congr (fun j hj => by rw [if_pos (by omega)])).arr
end Go.Proofs.Qxb6616080a
