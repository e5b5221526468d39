import Derived.Test.Qxb6616080aGc
namespace Go.Proofs.Qxb6616080a
open Go.RowKit
set_option linter.unusedVariables false
set_option linter.unusedSimpArgs false
set_option maxRecDepth 100000

theorem Try.info26 : (Try.prog.info? 26).map (fun i => (i.zero, i.size, i.bytes)) = some (some (.slice none 0 0), 1, 24) := by kernel_rfl
theorem Try.info44 : (Try.prog.info? 44).map (fun i => (i.zero, i.size, i.bytes)) = some (some (.slice none 0 0), 1, 24) := by kernel_rfl
theorem mk23 (n : Nat) (hn : n ≤ 1048576) (w : World) : (Instr.makeSlice 23 (.int .i64 (n : Int)) (.int .i64 (n : Int))).run Try.prog w = .ok (.slice (some ⟨w.heap.size, 0, none⟩) n n) (w.alloc (.cells (madeCells #[.slice none 0 0] n) 26)) := by
  obtain ⟨i, hi, hz, hs, hb⟩ := info_parts Try.info26
  have hr := run_make (P := Try.prog) w 23 26 i _ Try.underlying23 hi hz .i64 .i64 n n (by omega) (Int.le_refl _) (by rw [hb]; omega) (by omega)
  simpa [hs, Value.cells] using hr
theorem mk27 (n : Nat) (hn : n ≤ 1048576) (w : World) : (Instr.makeSlice 27 (.int .i64 (n : Int)) (.int .i64 (n : Int))).run Try.prog w = .ok (.slice (some ⟨w.heap.size, 0, none⟩) n n) (w.alloc (.cells (madeCells #[.slice none 0 0] n) 44)) := by
  obtain ⟨i, hi, hz, hs, hb⟩ := info_parts Try.info44
  have hr := run_make (P := Try.prog) w 27 44 i _ Try.underlying27 hi hz .i64 .i64 n n (by omega) (Int.le_refl _) (by rw [hb]; omega) (by omega)
  simpa [hs, Value.cells] using hr

/-- The rows of a clone of rows, up to k. -/
structure Cls (g : Nat) (w' : World) (k : Nat) (ty : TypeId) (cl : Nat → Nat) (v : Nat → Nat → Value) (A' : Nat → Option Addr) (B' : Nat → Nat) : Prop where
  at_ : ∀ j, j < k → 0 < cl j → A' j = some ⟨B' j, 0, none⟩ ∧ g < B' j ∧ B' j < w'.heap.size ∧ Arr w' (B' j) (cl j) ty (v j)
  inj : ∀ i j, i < k → j < k → 0 < cl i → 0 < cl j → i ≠ j → B' i ≠ B' j
theorem Cls.below {g : Nat} {w' w'' : World} {k : Nat} {ty : TypeId} {cl : Nat → Nat} {v : Nat → Nat → Value} {A' : Nat → Option Addr} {B' : Nat → Nat} (h : Cls g w' k ty cl v A' B') (hb : Below w'.heap.size w' w'') : Cls g w'' k ty cl v A' B' :=
  ⟨fun j hj hc => by
    obtain ⟨h1, h2, h3, h4⟩ := h.at_ j hj hc
    exact ⟨h1, h2, Nat.lt_of_lt_of_le h3 hb.size, h4.below hb h3⟩, h.inj⟩
theorem Cls.set {g : Nat} {w' : World} {k : Nat} {ty : TypeId} {cl : Nat → Nat} {v : Nat → Nat → Value} {A' : Nat → Option Addr} {B' : Nat → Nat} (h : Cls g w' k ty cl v A' B') (i : Nat) (u : Value) : Cls g (w'.setCell ⟨g, i, none⟩ u) k ty cl v A' B' :=
  ⟨fun j hj hc => by
    obtain ⟨h1, h2, h3, h4⟩ := h.at_ j hj hc
    exact ⟨h1, h2, by simpa using h3, h4.far (by show B' j ≠ g; omega) u⟩, h.inj⟩
theorem Cls.step {g : Nat} {w w1 : World} {k c1 : Nat} {ty : TypeId} {cl : Nat → Nat} {v : Nat → Nat → Value} {A' : Nat → Option Addr} {B' : Nat → Nat} {a1 : Option Addr} (h : Cls g w k ty cl v A' B') (hg : g < w.heap.size) (hc : Cl w w1 a1 (cl k) c1 ty (v k)) :
    Cls g w1 (k + 1) ty cl v (upd A' k a1) (upd B' k w.heap.size) := by
  have hb := h.below hc.bel
  refine ⟨fun j hj hcl => ?_, fun i j hi hj h1 h2 hne => ?_⟩
  · by_cases e : j = k
    · subst e
      rw [upd_self, upd_self]
      rcases hc.or with ⟨_, h0, _⟩ | ⟨ha, _, harr, hsz⟩
      · omega
      · exact ⟨ha, hg, by omega, harr⟩
    · rw [upd_ne _ _ e, upd_ne _ _ e]; exact hb.at_ j (by omega) hcl
  · by_cases e1 : i = k
    · subst e1
      rw [upd_self, upd_ne _ _ (fun e => hne e.symm)]
      have := (h.at_ j (by omega) h2).2.2.1
      omega
    · by_cases e2 : j = k
      · subst e2
        rw [upd_self, upd_ne _ _ e1]
        have := (h.at_ i (by omega) h1).2.2.1
        omega
      · rw [upd_ne _ _ e1, upd_ne _ _ e2]; exact h.inj i j (by omega) (by omega) h1 h2 hne

set_option maxHeartbeats 2000000 in
theorem f19_to (a : Option Addr) (b o c n : Nat) (cA : Nat → Option Addr) (cl cc cb co : Nat → Nat) (d : Nat → Nat → Int) (w : World) (hn : n ≤ 1048576) (hz : a = none → n = 0 ∧ c = 0) (ha : 0 < n → a = some ⟨b, o, none⟩) (hd : ∀ j, j < n → w.cell? ⟨b, o + j, none⟩ = some (.slice (cA j) (cl j) (cc j)))
    (hcl : ∀ j, j < n → cl j ≤ 1048576) (hcz : ∀ j, j < n → cA j = none → cl j = 0 ∧ cc j = 0) (hca : ∀ j, j < n → 0 < cl j → cA j = some ⟨cb j, co j, none⟩) (hcd : ∀ j, j < n → ∀ k, k < cl j → w.cell? ⟨cb j, co j + k, none⟩ = some (.int .i32 (d j k))) :
    Calls Try.prog 19 #[.slice a n c] w fun e w' => ∃ (a' : Option Addr) (c' : Nat) (A' : Nat → Option Addr) (B' C' : Nat → Nat), e = .returned (.slice a' n c') ∧ Below w.heap.size w w' ∧ ((a' = none ∧ n = 0 ∧ c' = 0 ∧ w' = w) ∨ (a' = some ⟨w.heap.size, 0, none⟩ ∧ c' = n ∧ Arr w' w.heap.size n 26 (fun j => .slice (A' j) (cl j) (C' j)))) ∧
      Cls w.heap.size w' n 21 cl (fun j k => .int .i32 (d j k)) A' B' := by
  cases a with
  | none =>
    obtain ⟨rfl, rfl⟩ := hz rfl
    have hnil := fun w => Lib.run_eql_slice_nil (P := Try.prog) w 23 26 none 0 0 0 0 Try.underlying23
    refine enter_f Try.func19 rfl Try.ntmps19 (by simp) fun a hD hV0 => ?_
    have hfs := fset_at
    obtain ⟨f, hf⟩ : ∃ f : Nat → Value, f = fun j => (#[.slice none 0 0] : Array Value).getD j undef := ⟨_, rfl⟩
    have h0 : f 0 = .slice none 0 0 := by rw [hf]; rfl
    have hV : ∀ j, j < 25 → a.tmps[j]? = some (f j) := fun j hj => by rw [hV0 j hj, hf]
    clear hf hV0 ha hd hcl hcz hca hcd hz
    repeat (first
      | (refine wpList_put hD hV ?hd ?_; (case hd => decide); clear hD hV; (try clear a); intro a hD hV)
      | ((first | refine wpList_plain rfl (fun K hK => ?_) | refine wpList_step (fun K hK => ?_)); go_simp; refine hK _ _ ?_; clear hK K)
      | (refine wp_cond_true ?hc ?_; (case hc => simp [Act.eval, hV, hfs]; done))
      | (refine wp_cond_false ?hc ?_; (case hc => simp [Act.eval, hV, hfs]; done))
      | go_step)
    exact ret_f (N := 25) (s := 2) rfl hD hV (by omega) ⟨none, 0, fun _ => none, fun _ => 0, fun _ => 0, by simp [hfs], Below.refl _ _, .inl ⟨rfl, rfl, rfl, rfl⟩, ⟨fun j hj => by omega, fun i j hi => by omega⟩⟩
  | some ad =>
    have hlt : ∀ j, j < n → b < w.heap.size := fun j hj => World.block_lt_of_cell? w _ (hd j hj)
    have hlt2 : ∀ j, j < n → ∀ k, k < cl j → cb j < w.heap.size := fun j hj k hk => World.block_lt_of_cell? w _ (hcd j hj k hk)
    refine enter_f Try.func19 rfl Try.ntmps19 (by simp) fun a hD hV0 => ?_
    have hfs := fset_at
    obtain ⟨f, hf⟩ : ∃ f : Nat → Value, f = fun j => (#[.slice (some ad) n c] : Array Value).getD j undef := ⟨_, rfl⟩
    have h0 : f 0 = .slice (some ad) n c := by rw [hf]; rfl
    have hV : ∀ j, j < 25 → a.tmps[j]? = some (f j) := fun j hj => by rw [hV0 j hj, hf]
    have hmk := mk23 n hn w
    have hnil := fun w => Lib.run_eql_slice_nil (P := Try.prog) w 23 26 (some ad) n c 0 0 Try.underlying23
    have HA := hide ha
    have HD := hide hd
    have HLT := hide hlt
    have HLT2 := hide hlt2
    have HCL := hide hcl
    have HCZ := hide hcz
    have HCA := hide hca
    have HCD := hide hcd
    obtain ⟨w0, hw0⟩ : ∃ w0, w.alloc (.cells (madeCells #[.slice none 0 0] n) 26) = w0 := ⟨_, rfl⟩
    have HO : Hid (Own w.heap.size w0 w.heap.size n 26 (fun _ => .slice none 0 0)) := hw0 ▸ Own.new _ _ _ _ (Nat.le_refl _)
    have HB : Hid (Below w.heap.size w w0) := hw0 ▸ (Below.refl _ _).alloc (Nat.le_refl _) _
    have HSZ : Hid (w.heap.size < w0.heap.size) := by rw [← hw0]; simp [Hid]
    rw [hw0] at hmk
    clear hf hV0 ha hd hlt hlt2 hcl hcz hca hcd
    repeat (first
      | (refine wpList_put hD hV ?hd ?_; (case hd => decide); clear hD hV; (try clear a); intro a hD hV)
      | ((first | refine wpList_plain rfl (fun K hK => ?_) | refine wpList_step (fun K hK => ?_)); go_simp; refine hK _ _ ?_; clear hK K)
      | (refine wp_cond_true ?hc ?_; (case hc => simp [Act.eval, hV, hfs]; done))
      | (refine wp_cond_false ?hc ?_; (case hc => simp [Act.eval, hV, hfs]; done))
      | go_step)
    generalize hg : w.heap.size = g at *
    refine wp_loop_f (N := 25) (fun m f w' => ∃ (k : Nat) (A' : Nat → Option Addr) (B' C' : Nat → Nat), k ≤ n ∧ m = n - k ∧ f 4 = .int .i64 (k : Nat) ∧ f 0 = .slice (some ad) n c ∧ f 3 = .slice (some ⟨g, 0, none⟩) n n ∧ Below g w w' ∧ g < w'.heap.size ∧ Own g w' g n 26 (fun j => if j < k then .slice (A' j) (cl j) (C' j) else .slice none 0 0) ∧ Cls g w' k 21 cl (fun j k => .int .i32 (d j k)) A' B') n hD hV
      ⟨0, fun _ => none, fun _ => 0, fun _ => 0, by omega, by omega, by simp [hfs], by simp [hfs, h0], by simp [hfs], HB.out, HSZ.out, by simpa using HO.out, ⟨fun j hj => by omega, fun i j hi => by omega⟩⟩ ?_
    clear h0 hD hV a f HO HB HSZ hmk
    intro m f w' a hD hV ⟨k, A', B', C', hk, hm', h4, h0, h3, hbel, hsz, ho, hcls⟩ K hK
    have HO := hide ho
    have HB := hide hbel
    have HK := hide hK
    have HCLS := hide hcls
    clear ho hbel hK hcls
    by_cases hkn : k < n
    · have had := HA.out (by omega)
      have e4 : IntKind.i64.wrap ((k : Int) + 1) = (k : Int) + 1 := w64' (by unfold i64; omega)
      have cc1 : w'.cell? ⟨b, o + k, none⟩ = some (.slice (cA k) (cl k) (cc k)) := (HB.out.cell (p := ⟨b, o + k, none⟩) (by show b < g; have := HLT.out k hkn; omega)).trans (HD.out k hkn)
      simp only [Option.some.injEq] at had
      subst had
      repeat (first
        | (refine wpList_put hD hV ?hd ?_; (case hd => decide); clear hD hV; (try clear a); intro a hD hV)
        | ((first | refine wpList_plain rfl (fun K hK => ?_) | refine wpList_step (fun K hK => ?_)); go_simp; refine hK _ _ ?_; clear hK K)
        | (refine wp_cond_true ?hc ?_; (case hc => simp [Act.eval, hV, hfs]; done))
        | (refine wp_cond_false ?hc ?_; (case hc => simp [Act.eval, hV, hfs]; done))
        | go_step)
      refine (f22_to (cA k) (cb k) (co k) (cc k) (cl k) (d k) w' (HCL.out k hkn) (HCZ.out k hkn) (HCA.out k hkn) (fun j hj => (HB.out.cell (p := ⟨cb k, co k + j, none⟩) (by show cb k < g; have := HLT2.out k hkn j hj; omega)).trans (HCD.out k hkn j hj))).mono ?_
      rintro e w1 ⟨a1, c1, rfl, hcl1⟩
      have HC1 := hide hcl1
      have HO1 : Hid (Own g w1 g n 26 (fun j => if j < k then .slice (A' j) (cl j) (C' j) else .slice none 0 0)) := ⟨HO.out.ge, HO.out.arr.below hcl1.bel hsz⟩
      have x1 := HO1.out.arr.cell hkn
      have x2 := HO1.out.arr.frozen k
      simp only [Nat.lt_irrefl, if_false] at x1
      have hsz1 : g < w1.heap.size := Nat.lt_of_lt_of_le hsz hcl1.bel.size
      clear hcl1
      dsimp only
      repeat (first
        | (refine wpList_put hD hV ?hd ?_; (case hd => decide); clear hD hV; (try clear a); intro a hD hV)
        | ((first | refine wpList_plain rfl (fun K hK => ?_) | refine wpList_step (fun K hK => ?_)); go_simp; refine hK _ _ ?_; clear hK K)
        | (refine wp_cond_true ?hc ?_; (case hc => simp [Act.eval, hV, hfs]; done))
        | (refine wp_cond_false ?hc ?_; (case hc => simp [Act.eval, hV, hfs]; done))
        | go_step)
      refine HK.out a _ _ (n - (k + 1)) hD hV (by omega) ⟨k + 1, upd A' k a1, upd B' k w'.heap.size, upd C' k c1, by omega, rfl, by simp [hfs], by simp [hfs, h0], by simp [hfs, h3], (HB.out.trans (HC1.out.bel.mono (by omega))).setCell (Nat.le_refl _) _, by simpa using hsz1, (HO1.out.set hkn _).congr (fun j hj => ?_), (HCLS.out.step hsz HC1.out).set _ _⟩
      unfold fset
      by_cases e : j = k
      · subst e; simp [upd_self]
      · rw [if_neg e, upd_ne _ _ e, upd_ne _ _ e]
        dsimp only
        by_cases e2 : j < k
        · rw [if_pos e2, if_pos (by omega)]
        · rw [if_neg e2, if_neg (by omega)]
    · repeat (first
        | (refine wpList_put hD hV ?hd ?_; (case hd => decide); clear hD hV; (try clear a); intro a hD hV)
        | ((first | refine wpList_plain rfl (fun K hK => ?_) | refine wpList_step (fun K hK => ?_)); go_simp; refine hK _ _ ?_; clear hK K)
        | (refine wp_cond_true ?hc ?_; (case hc => simp [Act.eval, hV, hfs]; done))
        | (refine wp_cond_false ?hc ?_; (case hc => simp [Act.eval, hV, hfs]; done))
        | go_step)
      obtain rfl : k = n := by omega
      refine ret_f (N := 25) (s := 2) rfl hD hV (by omega) ⟨some ⟨w.heap.size, 0, none⟩, k, A', B', C', by simp [hfs, hg], hg ▸ HB.out, .inr ⟨rfl, rfl, ?_⟩, hg ▸ HCLS.out⟩
      rw [hg]
      exact (HO.out.congr (fun j hj => by rw [if_pos (by omega)])).arr

set_option maxHeartbeats 2000000 in
theorem f23_to (a : Option Addr) (b o c n : Nat) (cA : Nat → Option Addr) (cl cc cb co : Nat → Nat) (d : Nat → Nat → Nat) (w : World) (hn : n ≤ 1048576) (hz : a = none → n = 0 ∧ c = 0) (ha : 0 < n → a = some ⟨b, o, none⟩) (hd : ∀ j, j < n → w.cell? ⟨b, o + j, none⟩ = some (.slice (cA j) (cl j) (cc j)))
    (hcl : ∀ j, j < n → cl j ≤ 1048576) (hcz : ∀ j, j < n → cA j = none → cl j = 0 ∧ cc j = 0) (hca : ∀ j, j < n → 0 < cl j → cA j = some ⟨cb j, co j, none⟩) (hcd : ∀ j, j < n → ∀ k, k < cl j → w.cell? ⟨cb j, co j + k, none⟩ = some (.int .u64 (d j k : Nat))) :
    Calls Try.prog 23 #[.slice a n c] w fun e w' => ∃ (a' : Option Addr) (c' : Nat) (A' : Nat → Option Addr) (B' C' : Nat → Nat), e = .returned (.slice a' n c') ∧ Below w.heap.size w w' ∧ ((a' = none ∧ n = 0 ∧ c' = 0 ∧ w' = w) ∨ (a' = some ⟨w.heap.size, 0, none⟩ ∧ c' = n ∧ Arr w' w.heap.size n 44 (fun j => .slice (A' j) (cl j) (C' j)))) ∧
      Cls w.heap.size w' n 28 cl (fun j k => .int .u64 (d j k : Nat)) A' B' := by
  cases a with
  | none =>
    obtain ⟨rfl, rfl⟩ := hz rfl
    have hnil := fun w => Lib.run_eql_slice_nil (P := Try.prog) w 27 44 none 0 0 0 0 Try.underlying27
    refine enter_f Try.func23 rfl Try.ntmps23 (by simp) fun a hD hV0 => ?_
    have hfs := fset_at
    obtain ⟨f, hf⟩ : ∃ f : Nat → Value, f = fun j => (#[.slice none 0 0] : Array Value).getD j undef := ⟨_, rfl⟩
    have h0 : f 0 = .slice none 0 0 := by rw [hf]; rfl
    have hV : ∀ j, j < 25 → a.tmps[j]? = some (f j) := fun j hj => by rw [hV0 j hj, hf]
    clear hf hV0 ha hd hcl hcz hca hcd hz
    repeat (first
      | (refine wpList_put hD hV ?hd ?_; (case hd => decide); clear hD hV; (try clear a); intro a hD hV)
      | ((first | refine wpList_plain rfl (fun K hK => ?_) | refine wpList_step (fun K hK => ?_)); go_simp; refine hK _ _ ?_; clear hK K)
      | (refine wp_cond_true ?hc ?_; (case hc => simp [Act.eval, hV, hfs]; done))
      | (refine wp_cond_false ?hc ?_; (case hc => simp [Act.eval, hV, hfs]; done))
      | go_step)
    exact ret_f (N := 25) (s := 2) rfl hD hV (by omega) ⟨none, 0, fun _ => none, fun _ => 0, fun _ => 0, by simp [hfs], Below.refl _ _, .inl ⟨rfl, rfl, rfl, rfl⟩, ⟨fun j hj => by omega, fun i j hi => by omega⟩⟩
  | some ad =>
    have hlt : ∀ j, j < n → b < w.heap.size := fun j hj => World.block_lt_of_cell? w _ (hd j hj)
    have hlt2 : ∀ j, j < n → ∀ k, k < cl j → cb j < w.heap.size := fun j hj k hk => World.block_lt_of_cell? w _ (hcd j hj k hk)
    refine enter_f Try.func23 rfl Try.ntmps23 (by simp) fun a hD hV0 => ?_
    have hfs := fset_at
    obtain ⟨f, hf⟩ : ∃ f : Nat → Value, f = fun j => (#[.slice (some ad) n c] : Array Value).getD j undef := ⟨_, rfl⟩
    have h0 : f 0 = .slice (some ad) n c := by rw [hf]; rfl
    have hV : ∀ j, j < 25 → a.tmps[j]? = some (f j) := fun j hj => by rw [hV0 j hj, hf]
    have hmk := mk27 n hn w
    have hnil := fun w => Lib.run_eql_slice_nil (P := Try.prog) w 27 44 (some ad) n c 0 0 Try.underlying27
    have HA := hide ha
    have HD := hide hd
    have HLT := hide hlt
    have HLT2 := hide hlt2
    have HCL := hide hcl
    have HCZ := hide hcz
    have HCA := hide hca
    have HCD := hide hcd
    obtain ⟨w0, hw0⟩ : ∃ w0, w.alloc (.cells (madeCells #[.slice none 0 0] n) 44) = w0 := ⟨_, rfl⟩
    have HO : Hid (Own w.heap.size w0 w.heap.size n 44 (fun _ => .slice none 0 0)) := hw0 ▸ Own.new _ _ _ _ (Nat.le_refl _)
    have HB : Hid (Below w.heap.size w w0) := hw0 ▸ (Below.refl _ _).alloc (Nat.le_refl _) _
    have HSZ : Hid (w.heap.size < w0.heap.size) := by rw [← hw0]; simp [Hid]
    rw [hw0] at hmk
    clear hf hV0 ha hd hlt hlt2 hcl hcz hca hcd
    repeat (first
      | (refine wpList_put hD hV ?hd ?_; (case hd => decide); clear hD hV; (try clear a); intro a hD hV)
      | ((first | refine wpList_plain rfl (fun K hK => ?_) | refine wpList_step (fun K hK => ?_)); go_simp; refine hK _ _ ?_; clear hK K)
      | (refine wp_cond_true ?hc ?_; (case hc => simp [Act.eval, hV, hfs]; done))
      | (refine wp_cond_false ?hc ?_; (case hc => simp [Act.eval, hV, hfs]; done))
      | go_step)
    generalize hg : w.heap.size = g at *
    refine wp_loop_f (N := 25) (fun m f w' => ∃ (k : Nat) (A' : Nat → Option Addr) (B' C' : Nat → Nat), k ≤ n ∧ m = n - k ∧ f 4 = .int .i64 (k : Nat) ∧ f 0 = .slice (some ad) n c ∧ f 3 = .slice (some ⟨g, 0, none⟩) n n ∧ Below g w w' ∧ g < w'.heap.size ∧ Own g w' g n 44 (fun j => if j < k then .slice (A' j) (cl j) (C' j) else .slice none 0 0) ∧ Cls g w' k 28 cl (fun j k => .int .u64 (d j k : Nat)) A' B') n hD hV
      ⟨0, fun _ => none, fun _ => 0, fun _ => 0, by omega, by omega, by simp [hfs], by simp [hfs, h0], by simp [hfs], HB.out, HSZ.out, by simpa using HO.out, ⟨fun j hj => by omega, fun i j hi => by omega⟩⟩ ?_
    clear h0 hD hV a f HO HB HSZ hmk
    intro m f w' a hD hV ⟨k, A', B', C', hk, hm', h4, h0, h3, hbel, hsz, ho, hcls⟩ K hK
    have HO := hide ho
    have HB := hide hbel
    have HK := hide hK
    have HCLS := hide hcls
    clear ho hbel hK hcls
    by_cases hkn : k < n
    · have had := HA.out (by omega)
      have e4 : IntKind.i64.wrap ((k : Int) + 1) = (k : Int) + 1 := w64' (by unfold i64; omega)
      have cc1 : w'.cell? ⟨b, o + k, none⟩ = some (.slice (cA k) (cl k) (cc k)) := (HB.out.cell (p := ⟨b, o + k, none⟩) (by show b < g; have := HLT.out k hkn; omega)).trans (HD.out k hkn)
      simp only [Option.some.injEq] at had
      subst had
      repeat (first
        | (refine wpList_put hD hV ?hd ?_; (case hd => decide); clear hD hV; (try clear a); intro a hD hV)
        | ((first | refine wpList_plain rfl (fun K hK => ?_) | refine wpList_step (fun K hK => ?_)); go_simp; refine hK _ _ ?_; clear hK K)
        | (refine wp_cond_true ?hc ?_; (case hc => simp [Act.eval, hV, hfs]; done))
        | (refine wp_cond_false ?hc ?_; (case hc => simp [Act.eval, hV, hfs]; done))
        | go_step)
      refine (f29_to (cA k) (cb k) (co k) (cc k) (cl k) (d k) w' (HCL.out k hkn) (HCZ.out k hkn) (HCA.out k hkn) (fun j hj => (HB.out.cell (p := ⟨cb k, co k + j, none⟩) (by show cb k < g; have := HLT2.out k hkn j hj; omega)).trans (HCD.out k hkn j hj))).mono ?_
      rintro e w1 ⟨a1, c1, rfl, hcl1⟩
      have HC1 := hide hcl1
      have HO1 : Hid (Own g w1 g n 44 (fun j => if j < k then .slice (A' j) (cl j) (C' j) else .slice none 0 0)) := ⟨HO.out.ge, HO.out.arr.below hcl1.bel hsz⟩
      have x1 := HO1.out.arr.cell hkn
      have x2 := HO1.out.arr.frozen k
      simp only [Nat.lt_irrefl, if_false] at x1
      have hsz1 : g < w1.heap.size := Nat.lt_of_lt_of_le hsz hcl1.bel.size
      clear hcl1
      dsimp only
      repeat (first
        | (refine wpList_put hD hV ?hd ?_; (case hd => decide); clear hD hV; (try clear a); intro a hD hV)
        | ((first | refine wpList_plain rfl (fun K hK => ?_) | refine wpList_step (fun K hK => ?_)); go_simp; refine hK _ _ ?_; clear hK K)
        | (refine wp_cond_true ?hc ?_; (case hc => simp [Act.eval, hV, hfs]; done))
        | (refine wp_cond_false ?hc ?_; (case hc => simp [Act.eval, hV, hfs]; done))
        | go_step)
      refine HK.out a _ _ (n - (k + 1)) hD hV (by omega) ⟨k + 1, upd A' k a1, upd B' k w'.heap.size, upd C' k c1, by omega, rfl, by simp [hfs], by simp [hfs, h0], by simp [hfs, h3], (HB.out.trans (HC1.out.bel.mono (by omega))).setCell (Nat.le_refl _) _, by simpa using hsz1, (HO1.out.set hkn _).congr (fun j hj => ?_), (HCLS.out.step hsz HC1.out).set _ _⟩
      unfold fset
      by_cases e : j = k
      · subst e; simp [upd_self]
      · rw [if_neg e, upd_ne _ _ e, upd_ne _ _ e]
        dsimp only
        by_cases e2 : j < k
        · rw [if_pos e2, if_pos (by omega)]
        · rw [if_neg e2, if_neg (by omega)]
    · repeat (first
        | (refine wpList_put hD hV ?hd ?_; (case hd => decide); clear hD hV; (try clear a); intro a hD hV)
        | ((first | refine wpList_plain rfl (fun K hK => ?_) | refine wpList_step (fun K hK => ?_)); go_simp; refine hK _ _ ?_; clear hK K)
        | (refine wp_cond_true ?hc ?_; (case hc => simp [Act.eval, hV, hfs]; done))
        | (refine wp_cond_false ?hc ?_; (case hc => simp [Act.eval, hV, hfs]; done))
        | go_step)
      obtain rfl : k = n := by omega
      refine ret_f (N := 25) (s := 2) rfl hD hV (by omega) ⟨some ⟨w.heap.size, 0, none⟩, k, A', B', C', by simp [hfs, hg], hg ▸ HB.out, .inr ⟨rfl, rfl, ?_⟩, hg ▸ HCLS.out⟩
      rw [hg]
      exact (HO.out.congr (fun j hj => by rw [if_pos (by omega)])).arr
end Go.Proofs.Qxb6616080a
