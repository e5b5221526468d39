import Derived.Test.Qxb6616080aF7a
namespace Go.Proofs.Qxb6616080a
open Go.RowKit
set_option linter.unusedVariables false
set_option linter.unusedSimpArgs false
set_option maxRecDepth 100000

theorem Try.info3 : (Try.prog.info? 3).map (fun i => (i.zero, i.size, i.bytes)) = some (some (.int .i64 0), 1, 8) := by kernel_rfl
theorem Try.info21 : (Try.prog.info? 21).map (fun i => (i.zero, i.size, i.bytes)) = some (some (.int .i32 0), 1, 4) := by kernel_rfl
theorem Try.info4 : (Try.prog.info? 4).map (fun i => (i.zero, i.size, i.bytes)) = some (some (.bool false), 1, 1) := by kernel_rfl
theorem mk24 (n : Nat) (hn : n ≤ 1048576) (w : World) : (Instr.makeSlice 24 (.int .i64 (n : Int)) (.int .i64 (n : Int))).run Try.prog w = .ok (.slice (some ⟨w.heap.size, 0, none⟩) n n) (w.alloc (.cells (madeCells #[.int .i64 0] n) 3)) := by
  obtain ⟨i, hi, hz, hs, hb⟩ := info_parts Try.info3
  have hr := run_make (P := Try.prog) w 24 3 i _ Try.underlying24 hi hz .i64 .i64 n n (by omega) (Int.le_refl _) (by rw [hb]; omega) (by omega)
  simpa [hs, Value.cells] using hr
theorem mk26 (n : Nat) (hn : n ≤ 1048576) (w : World) : (Instr.makeSlice 26 (.int .i64 (n : Int)) (.int .i64 (n : Int))).run Try.prog w = .ok (.slice (some ⟨w.heap.size, 0, none⟩) n n) (w.alloc (.cells (madeCells #[.int .i32 0] n) 21)) := by
  obtain ⟨i, hi, hz, hs, hb⟩ := info_parts Try.info21
  have hr := run_make (P := Try.prog) w 26 21 i _ Try.underlying26 hi hz .i64 .i64 n n (by omega) (Int.le_refl _) (by rw [hb]; omega) (by omega)
  simpa [hs, Value.cells] using hr
theorem mk25 (n : Nat) (hn : n ≤ 1048576) (w : World) : (Instr.makeSlice 25 (.int .i64 (n : Int)) (.int .i64 (n : Int))).run Try.prog w = .ok (.slice (some ⟨w.heap.size, 0, none⟩) n n) (w.alloc (.cells (madeCells #[.bool false] n) 4)) := by
  obtain ⟨i, hi, hz, hs, hb⟩ := info_parts Try.info4
  have hr := run_make (P := Try.prog) w 25 4 i _ Try.underlying25 hi hz .i64 .i64 n n (by omega) (Int.le_refl _) (by rw [hb]; omega) (by omega)
  simpa [hs, Value.cells] using hr

/-- A row of the call's own. -/
structure Own (B : Nat) (w : World) (g n : Nat) (ty : TypeId) (v : Nat → Value) : Prop where
  ge : B ≤ g
  arr : Arr w g n ty v
theorem Own.set {B : Nat} {w : World} {g n : Nat} {ty : TypeId} {v : Nat → Value} (h : Own B w g n ty v) {j : Nat} (hj : j < n) (u : Value) : Own B (w.setCell ⟨g, j, none⟩ u) g n ty (fset v j u) := ⟨h.ge, h.arr.set hj u⟩
theorem Own.far {B : Nat} {w : World} {g n : Nat} {ty : TypeId} {v : Nat → Value} (h : Own B w g n ty v) {p : Addr} (hp : g ≠ p.block) (u : Value) : Own B (w.setCell p u) g n ty v := ⟨h.ge, h.arr.far hp u⟩
theorem Own.alloc {B : Nat} {w : World} {g n : Nat} {ty : TypeId} {v : Nat → Value} (h : Own B w g n ty v) (o : Obj) : Own B (w.alloc o) g n ty v := ⟨h.ge, h.arr.alloc o⟩
theorem Own.congr {B : Nat} {w : World} {g n : Nat} {ty : TypeId} {v u : Nat → Value} (h : Own B w g n ty v) (he : ∀ j, j < n → v j = u j) : Own B w g n ty u := ⟨h.ge, h.arr.congr he⟩
theorem Own.drewN {B : Nat} {w : World} {g n : Nat} {ty : TypeId} {v : Nat → Value} (h : Own B w g n ty v) (k : Nat) : Own B (w.drewN k) g n ty v := ⟨h.ge, h.arr.drewN k⟩
theorem Own.new {B : Nat} (w : World) (n : Nat) (ty : TypeId) (z : Value) (hB : B ≤ w.heap.size) : Own B (w.alloc (.cells (madeCells #[z] n) ty)) w.heap.size n ty (fun _ => z) := ⟨hB, Arr.new w n ty z⟩

theorem fill_step (x y : Value) (k j : Nat) : fset (fun j => if j < k then x else y) k x j = if j < k + 1 then x else y := by
  unfold fset
  by_cases e : j = k
  · subst e; simp
  · rw [if_neg e]
    dsimp only
    by_cases e2 : j < k
    · rw [if_pos e2, if_pos (by omega)]
    · rw [if_neg e2, if_neg (by omega)]

section
variable {Q : Exit → Act → World → Prop} {W : World} {T : Ad} {E : Env} {D : Dyn} {B S : Nat}

/-- 'chainOf', 'place' made; 'chainOf' all -1. -/
theorem st6 {a : Act} {w : World} {f : Nat → Value} (hm : E.n ≤ 4096) (hB : B ≤ w.heap.size) (hb : Bs T E S f)
    (hD : a.defers = []) (hV : ∀ j, j < 864 → a.tmps[j]? = some (f j))
    (hNext : ∀ (a : Act) (f : Nat → Value) (w' : World) (g1 : Nat), a.defers = [] → (∀ j, j < 864 → a.tmps[j]? = some (f j)) → Bs T E S f → f 9 = .slice (some ⟨g1, 0, none⟩) E.n E.n →
      Below B w w' → B ≤ w'.heap.size → Own B w' g1 E.n 3 (fun _ => .int .i64 0) → Q .normal a w') :
    Code.wp Try.prog (sub [1, 1, 1, 1, 1, 1, 0] (Try.f7.body.getD .skip)) Q a w := by
  have hfs := fset_at
  obtain ⟨h0, h3, h5, h6, h7⟩ := hb
  have HN := hide hNext
  have hmk := mk24 E.n (by omega)
  clear hNext
  conv => arg 2; whnf
  repeat (first
    | (refine wpList_put hD hV ?hd ?_; (case hd => decide); clear hD hV; (try clear a); intro a hD hV)
    | ((first | refine wpList_plain rfl (fun K hK => ?_) | refine wpList_step (fun K hK => ?_)); go_simp; refine hK _ _ ?_; clear hK K)
    | (refine wp_cond_true ?hc ?_; (case hc => simp [Act.eval, hV, hfs]; done))
    | (refine wp_cond_false ?hc ?_; (case hc => simp [Act.eval, hV, hfs]; done))
    | go_step)
  exact HN.out a _ _ w.heap.size hD hV ⟨by simp [hfs, h0], by simp [hfs, h3], by simp [hfs, h5], by simp [hfs, h6], by simp [hfs, h7]⟩ (by simp [hfs]) ((Below.refl _ _).alloc hB _) (by simp; omega) (Own.new _ _ _ _ hB)
theorem st7 {a : Act} {w : World} {f : Nat → Value} {g1 : Nat} (hm : E.n ≤ 4096) (hB : B ≤ w.heap.size) (hb : Bs T E S f) (h9 : f 9 = .slice (some ⟨g1, 0, none⟩) E.n E.n) (ho : Own B w g1 E.n 3 (fun _ => .int .i64 0))
    (hD : a.defers = []) (hV : ∀ j, j < 864 → a.tmps[j]? = some (f j))
    (hNext : ∀ (a : Act) (f : Nat → Value) (w' : World) (g2 : Nat), a.defers = [] → (∀ j, j < 864 → a.tmps[j]? = some (f j)) → Bs T E S f → f 9 = .slice (some ⟨g1, 0, none⟩) E.n E.n → f 10 = .slice (some ⟨g2, 0, none⟩) E.n E.n → g1 ≠ g2 →
      Below B w w' → B ≤ w'.heap.size → Own B w' g1 E.n 3 (fun _ => .int .i64 0) → Own B w' g2 E.n 3 (fun _ => .int .i64 0) → Q .normal a w') :
    Code.wp Try.prog (sub [1, 1, 1, 1, 1, 1, 1, 0] (Try.f7.body.getD .skip)) Q a w := by
  have hfs := fset_at
  obtain ⟨h0, h3, h5, h6, h7⟩ := hb
  have HN := hide hNext
  have HO := hide ho
  have hmk := mk24 E.n (by omega)
  clear hNext ho
  conv => arg 2; whnf
  repeat (first
    | (refine wpList_put hD hV ?hd ?_; (case hd => decide); clear hD hV; (try clear a); intro a hD hV)
    | ((first | refine wpList_plain rfl (fun K hK => ?_) | refine wpList_step (fun K hK => ?_)); go_simp; refine hK _ _ ?_; clear hK K)
    | (refine wp_cond_true ?hc ?_; (case hc => simp [Act.eval, hV, hfs]; done))
    | (refine wp_cond_false ?hc ?_; (case hc => simp [Act.eval, hV, hfs]; done))
    | go_step)
  have := HO.out.arr.lt
  exact HN.out a _ _ w.heap.size hD hV ⟨by simp [hfs, h0], by simp [hfs, h3], by simp [hfs, h5], by simp [hfs, h6], by simp [hfs, h7]⟩ (by simp [hfs, h9]) (by simp [hfs]) (by omega) ((Below.refl _ _).alloc hB _) (by simp; omega) (HO.out.alloc _) (Own.new _ _ _ _ hB)
theorem st8 {a : Act} {w : World} {f : Nat → Value} {g1 g2 : Nat} (hm : E.n ≤ 4096) (hB : B ≤ w.heap.size) (hb : Bs T E S f) (h9 : f 9 = .slice (some ⟨g1, 0, none⟩) E.n E.n) (h10 : f 10 = .slice (some ⟨g2, 0, none⟩) E.n E.n) (hne : g1 ≠ g2)
    (ho : Own B w g1 E.n 3 (fun _ => .int .i64 0)) (hp : Own B w g2 E.n 3 (fun _ => .int .i64 0))
    (hD : a.defers = []) (hV : ∀ j, j < 864 → a.tmps[j]? = some (f j))
    (hNext : ∀ (a : Act) (f : Nat → Value) (w' : World), a.defers = [] → (∀ j, j < 864 → a.tmps[j]? = some (f j)) → Bs T E S f → f 9 = .slice (some ⟨g1, 0, none⟩) E.n E.n → f 10 = .slice (some ⟨g2, 0, none⟩) E.n E.n →
      Below B w w' → B ≤ w'.heap.size → Own B w' g1 E.n 3 (fun _ => .int .i64 (-1)) → Own B w' g2 E.n 3 (fun _ => .int .i64 0) → Q .normal a w') :
    Code.wp Try.prog (sub [1, 1, 1, 1, 1, 1, 1, 1, 0] (Try.f7.body.getD .skip)) Q a w := by
  have hfs := fset_at
  obtain ⟨h0, h3, h5, h6, h7⟩ := hb
  have HN := hide hNext
  have HO := hide ho
  have HP := hide hp
  clear hNext ho hp
  conv => arg 2; whnf
  repeat (first
    | (refine wpList_put hD hV ?hd ?_; (case hd => decide); clear hD hV; (try clear a); intro a hD hV)
    | ((first | refine wpList_plain rfl (fun K hK => ?_) | refine wpList_step (fun K hK => ?_)); go_simp; refine hK _ _ ?_; clear hK K)
    | (refine wp_cond_true ?hc ?_; (case hc => simp [Act.eval, hV, hfs]; done))
    | (refine wp_cond_false ?hc ?_; (case hc => simp [Act.eval, hV, hfs]; done))
    | go_step)
  refine wp_loop_f (N := 864) (fun m f w' => ∃ k, k ≤ E.n ∧ m = E.n - k ∧ f 11 = .int .i64 (k : Nat) ∧ Bs T E S f ∧ f 9 = .slice (some ⟨g1, 0, none⟩) E.n E.n ∧ f 10 = .slice (some ⟨g2, 0, none⟩) E.n E.n ∧ Below B w w' ∧ B ≤ w'.heap.size ∧
    Own B w' g1 E.n 3 (fun j => if j < k then .int .i64 (-1) else .int .i64 0) ∧ Own B w' g2 E.n 3 (fun _ => .int .i64 0)) E.n hD hV
    ⟨0, by omega, by omega, by simp [hfs], ⟨by simp [hfs, h0], by simp [hfs, h3], by simp [hfs, h5], by simp [hfs, h6], by simp [hfs, h7]⟩, by simp [hfs, h9], by simp [hfs, h10], Below.refl _ _, hB, by simpa using HO.out, HP.out⟩ ?_
  clear h0 h3 h5 h6 h7 h9 h10 hD hV a f
  intro m f w' a hD hV ⟨k, hk, hm', h11, hb, h9, h10, hbel, hB', ho, hp⟩ K hK
  obtain ⟨h0, h3, h5, h6, h7⟩ := hb
  have HO' := hide ho
  have HP' := hide hp
  have HB := hide hbel
  clear ho hp hbel
  by_cases hkn : k < E.n
  · have c1 := HO'.out.arr.cell hkn
    have c2 := HO'.out.arr.frozen k
    simp only [Nat.lt_irrefl, if_false] at c1
    have e2 : IntKind.i64.wrap ((k : Int) + 1) = (k : Int) + 1 := wrap64 (by unfold i64; omega)
    repeat (first
      | (refine wpList_put hD hV ?hd ?_; (case hd => decide); clear hD hV; (try clear a); intro a hD hV)
      | ((first | refine wpList_plain rfl (fun K hK => ?_) | refine wpList_step (fun K hK => ?_)); go_simp; refine hK _ _ ?_; clear hK K)
      | (refine wp_cond_true ?hc ?_; (case hc => simp [Act.eval, hV, hfs]; done))
      | (refine wp_cond_false ?hc ?_; (case hc => simp [Act.eval, hV, hfs]; done))
      | go_step)
    refine hK a _ _ (E.n - (k + 1)) hD hV (by omega) ⟨k + 1, by omega, rfl, by simp [hfs], ⟨by simp [hfs, h0], by simp [hfs, h3], by simp [hfs, h5], by simp [hfs, h6], by simp [hfs, h7]⟩, by simp [hfs, h9], by simp [hfs, h10], HB.out.setCell HO'.out.ge _, by simpa using hB', (HO'.out.set hkn _).congr (fun j hj => ?_), HP'.out.far (fun e => hne e.symm) _⟩
    exact fill_step _ _ _ _
  · repeat (first
      | (refine wpList_put hD hV ?hd ?_; (case hd => decide); clear hD hV; (try clear a); intro a hD hV)
      | ((first | refine wpList_plain rfl (fun K hK => ?_) | refine wpList_step (fun K hK => ?_)); go_simp; refine hK _ _ ?_; clear hK K)
      | (refine wp_cond_true ?hc ?_; (case hc => simp [Act.eval, hV, hfs]; done))
      | (refine wp_cond_false ?hc ?_; (case hc => simp [Act.eval, hV, hfs]; done))
      | go_step)
    exact HN.out a _ _ hD hV ⟨by simp [hfs, h0], by simp [hfs, h3], by simp [hfs, h5], by simp [hfs, h6], by simp [hfs, h7]⟩ (by simp [hfs, h9]) (by simp [hfs, h10]) HB.out hB' (HO'.out.congr (fun j hj => by rw [if_pos (by omega)])) HP'.out
end
end Go.Proofs.Qxb6616080a
