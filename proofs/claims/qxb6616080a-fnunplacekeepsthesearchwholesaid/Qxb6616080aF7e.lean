import Derived.Test.Qxb6616080aF7d
namespace Go.Proofs.Qxb6616080a
open Go.RowKit
set_option linter.unusedVariables false
set_option linter.unusedSimpArgs false
set_option maxRecDepth 100000

section
variable {Q : Exit → Act → World → Prop} {W : World} {T : Ad} {E : Env} {D : Dyn} {B S : Nat} {mix : Nat → Nat}

theorem st13 {a : Act} {w : World} {f : Nat → Value} {g1 : Nat} {v1 : Nat → Value} (hR : Rd W B T E D) (hS : Sb W S T E D) (hSB : S < B) (hW : Below B W w) (hB : B ≤ w.heap.size) (hb : Bs T E S f) (h9 : f 9 = .slice (some ⟨g1, 0, none⟩) E.n E.n) (ho : Own B w g1 E.n 3 v1) (hD : a.defers = []) (hV : ∀ j, j < 864 → a.tmps[j]? = some (f j))
    (hNext : ∀ (a : Act) (f : Nat → Value) (w' : World) (g3 : Nat), a.defers = [] → (∀ j, j < 864 → a.tmps[j]? = some (f j)) → Bs T E S f → f 9 = .slice (some ⟨g1, 0, none⟩) E.n E.n → f 18 = .slice (some ⟨g3, 0, none⟩) E.n E.n → g1 < g3 →
      Below B W w' → B ≤ w'.heap.size → Own B w' g1 E.n 3 v1 → Own B w' g3 E.n 21 (fun _ => .int .i32 0) → Q .normal a w') :
    Code.wp Try.prog (sub [1, 1, 1, 1, 1, 1, 1, 1, 1, 1, 1, 1, 1, 0] (Try.f7.body.getD .skip)) Q a w := by
  have hfs := fset_at
  obtain ⟨h0, h3, h5, h6, h7⟩ := hb
  have HN := hide hNext
  have HO := hide ho
  have HW := hide hW
  have hmk := mk26 E.n (by have := hR.m_n; omega)
  clear hNext ho hW hR hS
  conv => arg 2; whnf
  repeat (first
    | (refine wpList_put hD hV ?hd ?_; (case hd => decide); clear hD hV; (try clear a); intro a hD hV)
    | ((first | refine wpList_plain rfl (fun K hK => ?_) | refine wpList_step (fun K hK => ?_)); go_simp; refine hK _ _ ?_; clear hK K)
    | (refine wp_cond_true ?hc ?_; (case hc => simp [Act.eval, hV, hfs]; done))
    | (refine wp_cond_false ?hc ?_; (case hc => simp [Act.eval, hV, hfs]; done))
    | go_step)
  exact HN.out a _ _ w.heap.size hD hV ⟨by simp [hfs, h0], by simp [hfs, h3], by simp [hfs, h5], by simp [hfs, h6], by simp [hfs, h7]⟩ (by simp [hfs, h9]) (by simp [hfs]) HO.out.arr.lt (HW.out.alloc hB _) (by simp; omega) (HO.out.alloc _) (Own.new _ _ _ _ hB)
theorem st14 {a : Act} {w : World} {f : Nat → Value} {g1 g3 : Nat} {v1 : Nat → Value} (hR : Rd W B T E D) (hS : Sb W S T E D) (hSB : S < B) (hW : Below B W w) (hB : B ≤ w.heap.size) (hb : Bs T E S f) (h9 : f 9 = .slice (some ⟨g1, 0, none⟩) E.n E.n) (h18 : f 18 = .slice (some ⟨g3, 0, none⟩) E.n E.n) (ho : Own B w g1 E.n 3 v1) (ho3 : Own B w g3 E.n 21 (fun _ => .int .i32 0)) (hD : a.defers = []) (hV : ∀ j, j < 864 → a.tmps[j]? = some (f j))
    (hNext : ∀ (a : Act) (f : Nat → Value) (w' : World) (g4 : Nat), a.defers = [] → (∀ j, j < 864 → a.tmps[j]? = some (f j)) → Bs T E S f → f 9 = .slice (some ⟨g1, 0, none⟩) E.n E.n → f 18 = .slice (some ⟨g3, 0, none⟩) E.n E.n → f 19 = .slice (some ⟨g4, 0, none⟩) E.n E.n → g3 < g4 →
      Below B W w' → B ≤ w'.heap.size → Own B w' g1 E.n 3 v1 → Own B w' g3 E.n 21 (fun _ => .int .i32 0) → Own B w' g4 E.n 4 (fun _ => .bool false) → Q .normal a w') :
    Code.wp Try.prog (sub [1, 1, 1, 1, 1, 1, 1, 1, 1, 1, 1, 1, 1, 1, 0] (Try.f7.body.getD .skip)) Q a w := by
  have hfs := fset_at
  obtain ⟨h0, h3, h5, h6, h7⟩ := hb
  have HN := hide hNext
  have HO := hide ho
  have HO3 := hide ho3
  have HW := hide hW
  have hmk := mk25 E.n (by have := hR.m_n; omega)
  clear hNext ho ho3 hW hR hS
  conv => arg 2; whnf
  repeat (first
    | (refine wpList_put hD hV ?hd ?_; (case hd => decide); clear hD hV; (try clear a); intro a hD hV)
    | ((first | refine wpList_plain rfl (fun K hK => ?_) | refine wpList_step (fun K hK => ?_)); go_simp; refine hK _ _ ?_; clear hK K)
    | (refine wp_cond_true ?hc ?_; (case hc => simp [Act.eval, hV, hfs]; done))
    | (refine wp_cond_false ?hc ?_; (case hc => simp [Act.eval, hV, hfs]; done))
    | go_step)
  exact HN.out a _ _ w.heap.size hD hV ⟨by simp [hfs, h0], by simp [hfs, h3], by simp [hfs, h5], by simp [hfs, h6], by simp [hfs, h7]⟩ (by simp [hfs, h9]) (by simp [hfs, h18]) (by simp [hfs]) HO3.out.arr.lt (HW.out.alloc hB _) (by simp; omega) (HO.out.alloc _) (HO3.out.alloc _) (Own.new _ _ _ _ hB)
theorem st15 {a : Act} {w : World} {f : Nat → Value} {g1 g3 g4 : Nat} {v1 : Nat → Value} (hR : Rd W B T E D) (hS : Sb W S T E D) (hSB : S < B) (hW : Below B W w) (hB : B ≤ w.heap.size) (hb : Bs T E S f) (h9 : f 9 = .slice (some ⟨g1, 0, none⟩) E.n E.n) (h18 : f 18 = .slice (some ⟨g3, 0, none⟩) E.n E.n) (h19 : f 19 = .slice (some ⟨g4, 0, none⟩) E.n E.n)
    (ho : Own B w g1 E.n 3 v1) (ho3 : Own B w g3 E.n 21 (fun _ => .int .i32 0)) (ho4 : Own B w g4 E.n 4 (fun _ => .bool false)) (hD : a.defers = []) (hV : ∀ j, j < 864 → a.tmps[j]? = some (f j))
    (hNext : ∀ (a : Act) (f : Nat → Value) (w' : World) (g5 : Nat), a.defers = [] → (∀ j, j < 864 → a.tmps[j]? = some (f j)) → Bs T E S f → f 9 = .slice (some ⟨g1, 0, none⟩) E.n E.n → f 18 = .slice (some ⟨g3, 0, none⟩) E.n E.n → f 19 = .slice (some ⟨g4, 0, none⟩) E.n E.n → f 20 = .slice (some ⟨g5, 0, none⟩) E.nv E.nv → g4 < g5 →
      Below B W w' → B ≤ w'.heap.size → Own B w' g1 E.n 3 v1 → Own B w' g3 E.n 21 (fun _ => .int .i32 0) → Own B w' g4 E.n 4 (fun _ => .bool false) → Own B w' g5 E.nv 21 (fun _ => .int .i32 0) → Q .normal a w') :
    Code.wp Try.prog (sub [1, 1, 1, 1, 1, 1, 1, 1, 1, 1, 1, 1, 1, 1, 1, 0] (Try.f7.body.getD .skip)) Q a w := by
  have hfs := fset_at
  obtain ⟨h0, h3, h5, h6, h7⟩ := hb
  have HN := hide hNext
  have HO := hide ho
  have HO3 := hide ho3
  have HO4 := hide ho4
  have HW := hide hW
  have hmk := mk26 E.nv (by have := hR.m_v; omega)
  clear hNext ho ho3 ho4 hW hR hS
  conv => arg 2; whnf
  repeat (first
    | (refine wpList_put hD hV ?hd ?_; (case hd => decide); clear hD hV; (try clear a); intro a hD hV)
    | ((first | refine wpList_plain rfl (fun K hK => ?_) | refine wpList_step (fun K hK => ?_)); go_simp; refine hK _ _ ?_; clear hK K)
    | (refine wp_cond_true ?hc ?_; (case hc => simp [Act.eval, hV, hfs]; done))
    | (refine wp_cond_false ?hc ?_; (case hc => simp [Act.eval, hV, hfs]; done))
    | go_step)
  exact HN.out a _ _ w.heap.size hD hV ⟨by simp [hfs, h0], by simp [hfs, h3], by simp [hfs, h5], by simp [hfs, h6], by simp [hfs, h7]⟩ (by simp [hfs, h9]) (by simp [hfs, h18]) (by simp [hfs, h19]) (by simp [hfs]) HO4.out.arr.lt (HW.out.alloc hB _) (by simp; omega) (HO.out.alloc _) (HO3.out.alloc _) (HO4.out.alloc _) (Own.new _ _ _ _ hB)
end
end Go.Proofs.Qxb6616080a
