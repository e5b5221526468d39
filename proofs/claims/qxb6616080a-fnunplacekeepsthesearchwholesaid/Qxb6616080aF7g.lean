import Derived.Test.Qxb6616080aF7f
namespace Go.Proofs.Qxb6616080a
open Go.RowKit
set_option linter.unusedVariables false
set_option linter.unusedSimpArgs false
set_option maxRecDepth 100000

section
variable {Q : Exit → Act → World → Prop} {W : World} {T : Ad} {E : Env} {D : Dyn} {B S : Nat} {mix : Nat → Nat}

set_option maxHeartbeats 1000000 in
theorem st17 {a : Act} {w : World} {f : Nat → Value} {g3 g4 g5 : Nat} {aw : Nat → Int} {ad : Nat → Bool} {ini : Nat → Int} (hR : Rd W B T E D) (hS : Sb W S T E D) (hSB : S < B) (hW : Below B W w) (hB : B ≤ w.heap.size) (hb : Bs T E S f) (h18 : f 18 = .slice (some ⟨g3, 0, none⟩) E.n E.n) (h19 : f 19 = .slice (some ⟨g4, 0, none⟩) E.n E.n) (h20 : f 20 = .slice (some ⟨g5, 0, none⟩) E.nv E.nv)
    (ho3 : Own B w g3 E.n 21 (fun j => .int .i32 (aw j))) (ho4 : Own B w g4 E.n 4 (fun j => .bool (ad j))) (ho5 : Own B w g5 E.nv 21 (fun j => .int .i32 (ini j))) (hg : Gat E D E.n aw ad ini) (hD : a.defers = []) (hV : ∀ j, j < 864 → a.tmps[j]? = some (f j))
    (hNext : ∀ (a : Act) (f : Nat → Value) (w' : World), a.defers = [] → (∀ j, j < 864 → a.tmps[j]? = some (f j)) → Bs T E S f → f 20 = .slice (some ⟨g5, 0, none⟩) E.nv E.nv → Below B W w' → B ≤ w'.heap.size → Own B w' g5 E.nv 21 (fun j => .int .i32 (ini j)) →
      (∀ i, i < E.n → D.awaiting i = aw i ∧ E.awaited i = ad i) → Q .normal a w')
    (hRet : ∀ (a : Act) (f : Nat → Value) (w : World), a.defers = [] → (∀ j, j < 864 → a.tmps[j]? = some (f j)) → f 4 = .bool false → Below B W w → ¬ Holds E D mix → Q .ret a w) : Code.wp Try.prog (sub [1, 1, 1, 1, 1, 1, 1, 1, 1, 1, 1, 1, 1, 1, 1, 1, 1, 0] (Try.f7.body.getD .skip)) Q a w := by
  have hfs := fset_at
  obtain ⟨h0, h3, h5, h6, h7⟩ := hb
  have HN := hide hNext
  have HR := hide hRet
  have HO3 := hide ho3
  have HO4 := hide ho4
  have HO5 := hide ho5
  have HW := hide hW
  have HG := hide hg
  have HRw := hide (hR.below hW)
  have s6 : w.cell? ⟨S, 6, none⟩ = some (.slice (T.A 6) E.n (T.cap 6)) := hS.below hW hSB 6 (by decide)
  have s7 : w.cell? ⟨S, 7, none⟩ = some (.slice (T.A 7) E.n (T.cap 7)) := hS.below hW hSB 7 (by decide)
  have m1 := hR.m_n
  clear hNext hRet ho3 ho4 ho5 hR hS hW hg
  conv => arg 2; whnf
  repeat (first
    | (refine wpList_put hD hV ?hd ?_; (case hd => decide); clear hD hV; (try clear a); intro a hD hV)
    | ((first | refine wpList_plain rfl (fun K hK => ?_) | refine wpList_step (fun K hK => ?_)); go_simp; refine hK _ _ ?_; clear hK K)
    | (refine wp_cond_true ?hc ?_; (case hc => simp [Act.eval, hV, hfs]; done))
    | (refine wp_cond_false ?hc ?_; (case hc => simp [Act.eval, hV, hfs]; done))
    | go_step)
  refine wp_loop_f (N := 864) (fun m f w' => ∃ (k q : Nat), k ≤ E.n ∧ m = E.n - k ∧ w' = w.drewN q ∧ f 23 = .int .i64 (k : Nat) ∧ Bs T E S f ∧ f 18 = .slice (some ⟨g3, 0, none⟩) E.n E.n ∧ f 19 = .slice (some ⟨g4, 0, none⟩) E.n E.n ∧ f 20 = .slice (some ⟨g5, 0, none⟩) E.nv E.nv ∧
    (∀ i, i < k → D.awaiting i = aw i ∧ E.awaited i = ad i)) E.n hD hV
    ⟨0, 0, by omega, by omega, rfl, by simp [hfs], ⟨by simp [hfs, h0], by simp [hfs, h3], by simp [hfs, h5], by simp [hfs, h6], by simp [hfs, h7]⟩, by simp [hfs, h18], by simp [hfs, h19], by simp [hfs, h20], fun _ h => by omega⟩ ?_
  clear h0 h3 h5 h6 h7 h18 h19 h20 hD hV a f
  intro m f w' a hD hV ⟨k, q, hk, hm', hw, h23, hb, h18, h19, h20, hI⟩ K hK
  subst hw
  obtain ⟨h0, h3, h5, h6, h7⟩ := hb
  have HK := hide hK
  have HI := hide hI
  clear hK hI
  by_cases hkn : k < E.n
  · have n6 := HRw.out.n6 (by omega)
    have n7 := HRw.out.n7 (by omega)
    have d6 := HRw.out.d6 k hkn
    have d7 := HRw.out.d7 k hkn
    have c3 := HO3.out.arr.cell hkn
    have c4 := HO4.out.arr.cell hkn
    have e4 : IntKind.i64.wrap ((k : Int) + 1) = (k : Int) + 1 := wrap64 (by unfold i64; omega)
    cases q1 : (D.awaiting k != aw k)
    case true =>
      repeat (first
        | (refine wpList_put hD hV ?hd ?_; (case hd => decide); clear hD hV; (try clear a); intro a hD hV)
        | ((first | refine wpList_plain rfl (fun K hK => ?_) | refine wpList_step (fun K hK => ?_)); go_simp; refine hK _ _ ?_; clear hK K)
        | (refine wp_cond_true ?hc ?_; (case hc => simp [Act.eval, hV, hfs]; done))
        | (refine wp_cond_false ?hc ?_; (case hc => simp [Act.eval, hV, hfs]; done))
        | go_step)
      refine wp_region_quiet_lit (by kernel_rfl) (by kernel_rfl) ?_
      repeat (first
        | (refine wpQuiet_put hD hV ?hd ?_; (case hd => decide); clear hD hV; (try clear a); intro a hD hV)
        | (refine wpQuiet_step (fun K hK => ?_); go_simp; refine hK _ ?_; clear hK K))
      refine wpQuiet_nil ?_
      intro w' hw'
      obtain ⟨nq, hw''⟩ := hw'
      subst hw''
      repeat (first
        | (refine wpList_put hD hV ?hd ?_; (case hd => decide); clear hD hV; (try clear a); intro a hD hV)
        | ((first | refine wpList_plain rfl (fun K hK => ?_) | refine wpList_step (fun K hK => ?_)); go_simp; refine hK _ _ ?_; clear hK K)
        | (refine wp_cond_true ?hc ?_; (case hc => simp [Act.eval, hV, hfs]; done))
        | (refine wp_cond_false ?hc ?_; (case hc => simp [Act.eval, hV, hfs]; done))
        | go_step)
      exact HR.out a _ _ hD hV (by simp [hfs]) (bdrewN HW.out _) (fun h => by
        have h1 := h.aw k hkn
        rw [← HG.out.aw_ k hkn] at h1
        simp [h1] at q1)
    case false =>
      cases q2 : (E.awaited k == ad k)
      case false =>
        repeat (first
          | (refine wpList_put hD hV ?hd ?_; (case hd => decide); clear hD hV; (try clear a); intro a hD hV)
          | ((first | refine wpList_plain rfl (fun K hK => ?_) | refine wpList_step (fun K hK => ?_)); go_simp; refine hK _ _ ?_; clear hK K)
          | (refine wp_cond_true ?hc ?_; (case hc => simp [Act.eval, hV, hfs]; done))
          | (refine wp_cond_false ?hc ?_; (case hc => simp [Act.eval, hV, hfs]; done))
          | go_step)
        refine wp_region_quiet_lit (by kernel_rfl) (by kernel_rfl) ?_
        repeat (first
          | (refine wpQuiet_put hD hV ?hd ?_; (case hd => decide); clear hD hV; (try clear a); intro a hD hV)
          | (refine wpQuiet_step (fun K hK => ?_); go_simp; refine hK _ ?_; clear hK K))
        refine wpQuiet_nil ?_
        intro w' hw'
        obtain ⟨nq, hw''⟩ := hw'
        subst hw''
        repeat (first
          | (refine wpList_put hD hV ?hd ?_; (case hd => decide); clear hD hV; (try clear a); intro a hD hV)
          | ((first | refine wpList_plain rfl (fun K hK => ?_) | refine wpList_step (fun K hK => ?_)); go_simp; refine hK _ _ ?_; clear hK K)
          | (refine wp_cond_true ?hc ?_; (case hc => simp [Act.eval, hV, hfs]; done))
          | (refine wp_cond_false ?hc ?_; (case hc => simp [Act.eval, hV, hfs]; done))
          | go_step)
        exact HR.out a _ _ hD hV (by simp [hfs]) (bdrewN HW.out _) (fun h => by
          have h1 := (h.ad k hkn).trans (HG.out.ad_ k hkn).symm
          have h2 : E.awaited k = ad k := Bool.eq_iff_iff.2 h1
          simp [h2] at q2)
      case true =>
        repeat (first
          | (refine wpList_put hD hV ?hd ?_; (case hd => decide); clear hD hV; (try clear a); intro a hD hV)
          | ((first | refine wpList_plain rfl (fun K hK => ?_) | refine wpList_step (fun K hK => ?_)); go_simp; refine hK _ _ ?_; clear hK K)
          | (refine wp_cond_true ?hc ?_; (case hc => simp [Act.eval, hV, hfs]; done))
          | (refine wp_cond_false ?hc ?_; (case hc => simp [Act.eval, hV, hfs]; done))
          | go_step)
        refine wp_region_quiet_lit (by kernel_rfl) (by kernel_rfl) ?_
        repeat (first
          | (refine wpQuiet_put hD hV ?hd ?_; (case hd => decide); clear hD hV; (try clear a); intro a hD hV)
          | (refine wpQuiet_step (fun K hK => ?_); go_simp; refine hK _ ?_; clear hK K))
        refine wpQuiet_nil ?_
        intro w' hw'
        obtain ⟨nq, hw''⟩ := hw'
        subst hw''
        repeat (first
          | (refine wpList_put hD hV ?hd ?_; (case hd => decide); clear hD hV; (try clear a); intro a hD hV)
          | ((first | refine wpList_plain rfl (fun K hK => ?_) | refine wpList_step (fun K hK => ?_)); go_simp; refine hK _ _ ?_; clear hK K)
          | (refine wp_cond_true ?hc ?_; (case hc => simp [Act.eval, hV, hfs]; done))
          | (refine wp_cond_false ?hc ?_; (case hc => simp [Act.eval, hV, hfs]; done))
          | go_step)
        refine HK.out a _ _ (E.n - (k + 1)) hD hV (by omega) ⟨k + 1, _, by omega, rfl, rfl, by simp [hfs], ⟨by simp [hfs, h0], by simp [hfs, h3], by simp [hfs, h5], by simp [hfs, h6], by simp [hfs, h7]⟩, by simp [hfs, h18], by simp [hfs, h19], by simp [hfs, h20], fun i hi => ?_⟩
        by_cases e : i = k
        · subst e; exact ⟨by simpa using q1, by simpa using q2⟩
        · exact HI.out i (by omega)
  · repeat (first
      | (refine wpList_put hD hV ?hd ?_; (case hd => decide); clear hD hV; (try clear a); intro a hD hV)
      | ((first | refine wpList_plain rfl (fun K hK => ?_) | refine wpList_step (fun K hK => ?_)); go_simp; refine hK _ _ ?_; clear hK K)
      | (refine wp_cond_true ?hc ?_; (case hc => simp [Act.eval, hV, hfs]; done))
      | (refine wp_cond_false ?hc ?_; (case hc => simp [Act.eval, hV, hfs]; done))
      | go_step)
    exact HN.out a _ _ hD hV ⟨by simp [hfs, h0], by simp [hfs, h3], by simp [hfs, h5], by simp [hfs, h6], by simp [hfs, h7]⟩ (by simp [hfs, h20]) (bdrewN HW.out _) hB (HO5.out.drewN _) (fun i hi => HI.out i (by omega))

set_option maxHeartbeats 1000000 in
theorem st18 {a : Act} {w : World} {f : Nat → Value} {g5 : Nat} {aw : Nat → Int} {ad : Nat → Bool} {ini : Nat → Int} (hR : Rd W B T E D) (hS : Sb W S T E D) (hSB : S < B) (hW : Below B W w) (hB : B ≤ w.heap.size) (hb : Bs T E S f) (h20 : f 20 = .slice (some ⟨g5, 0, none⟩) E.nv E.nv)
    (ho5 : Own B w g5 E.nv 21 (fun j => .int .i32 (ini j))) (hg : Gat E D E.n aw ad ini) (hD : a.defers = []) (hV : ∀ j, j < 864 → a.tmps[j]? = some (f j))
    (hNext : ∀ (a : Act) (f : Nat → Value) (w' : World), a.defers = [] → (∀ j, j < 864 → a.tmps[j]? = some (f j)) → Bs T E S f → Below B W w' → B ≤ w'.heap.size → (∀ i, i < E.nv → D.initial i = ini i) → Q .normal a w')
    (hRet : ∀ (a : Act) (f : Nat → Value) (w : World), a.defers = [] → (∀ j, j < 864 → a.tmps[j]? = some (f j)) → f 4 = .bool false → Below B W w → ¬ Holds E D mix → Q .ret a w) : Code.wp Try.prog (sub [1, 1, 1, 1, 1, 1, 1, 1, 1, 1, 1, 1, 1, 1, 1, 1, 1, 1, 0] (Try.f7.body.getD .skip)) Q a w := by
  have hfs := fset_at
  obtain ⟨h0, h3, h5, h6, h7⟩ := hb
  have HN := hide hNext
  have HR := hide hRet
  have HO5 := hide ho5
  have HW := hide hW
  have HG := hide hg
  have HRw := hide (hR.below hW)
  have s11 : w.cell? ⟨S, 11, none⟩ = some (.slice (T.A 11) E.nv (T.cap 11)) := hS.below hW hSB 11 (by decide)
  have m1 := hR.m_v
  clear hNext hRet ho5 hR hS hW hg
  conv => arg 2; whnf
  repeat (first
    | (refine wpList_put hD hV ?hd ?_; (case hd => decide); clear hD hV; (try clear a); intro a hD hV)
    | ((first | refine wpList_plain rfl (fun K hK => ?_) | refine wpList_step (fun K hK => ?_)); go_simp; refine hK _ _ ?_; clear hK K)
    | (refine wp_cond_true ?hc ?_; (case hc => simp [Act.eval, hV, hfs]; done))
    | (refine wp_cond_false ?hc ?_; (case hc => simp [Act.eval, hV, hfs]; done))
    | go_step)
  refine wp_loop_f (N := 864) (fun m f w' => ∃ (k q : Nat), k ≤ E.nv ∧ m = E.nv - k ∧ w' = w.drewN q ∧ f 24 = .int .i64 (k : Nat) ∧ Bs T E S f ∧ f 20 = .slice (some ⟨g5, 0, none⟩) E.nv E.nv ∧
    (∀ i, i < k → D.initial i = ini i)) E.nv hD hV
    ⟨0, 0, by omega, by omega, rfl, by simp [hfs], ⟨by simp [hfs, h0], by simp [hfs, h3], by simp [hfs, h5], by simp [hfs, h6], by simp [hfs, h7]⟩, by simp [hfs, h20], fun _ h => by omega⟩ ?_
  clear h0 h3 h5 h6 h7 h20 hD hV a f
  intro m f w' a hD hV ⟨k, q, hk, hm', hw, h24, hb, h20, hI⟩ K hK
  subst hw
  obtain ⟨h0, h3, h5, h6, h7⟩ := hb
  have HK := hide hK
  have HI := hide hI
  clear hK hI
  by_cases hkn : k < E.nv
  · have n11 := HRw.out.n11 (by omega)
    have d11 := HRw.out.d11 k hkn
    have c5 := HO5.out.arr.cell hkn
    have e4 : IntKind.i64.wrap ((k : Int) + 1) = (k : Int) + 1 := wrap64 (by unfold i64; omega)
    cases q1 : (D.initial k != ini k)
    case true =>
      repeat (first
        | (refine wpList_put hD hV ?hd ?_; (case hd => decide); clear hD hV; (try clear a); intro a hD hV)
        | ((first | refine wpList_plain rfl (fun K hK => ?_) | refine wpList_step (fun K hK => ?_)); go_simp; refine hK _ _ ?_; clear hK K)
        | (refine wp_cond_true ?hc ?_; (case hc => simp [Act.eval, hV, hfs]; done))
        | (refine wp_cond_false ?hc ?_; (case hc => simp [Act.eval, hV, hfs]; done))
        | go_step)
      refine wp_region_quiet_lit (by kernel_rfl) (by kernel_rfl) ?_
      repeat (first
        | (refine wpQuiet_put hD hV ?hd ?_; (case hd => decide); clear hD hV; (try clear a); intro a hD hV)
        | (refine wpQuiet_step (fun K hK => ?_); go_simp; refine hK _ ?_; clear hK K))
      refine wpQuiet_nil ?_
      intro w' hw'
      obtain ⟨nq, hw''⟩ := hw'
      subst hw''
      repeat (first
        | (refine wpList_put hD hV ?hd ?_; (case hd => decide); clear hD hV; (try clear a); intro a hD hV)
        | ((first | refine wpList_plain rfl (fun K hK => ?_) | refine wpList_step (fun K hK => ?_)); go_simp; refine hK _ _ ?_; clear hK K)
        | (refine wp_cond_true ?hc ?_; (case hc => simp [Act.eval, hV, hfs]; done))
        | (refine wp_cond_false ?hc ?_; (case hc => simp [Act.eval, hV, hfs]; done))
        | go_step)
      exact HR.out a _ _ hD hV (by simp [hfs]) (bdrewN HW.out _) (fun h => by
        have h1 := h.ini k hkn
        rw [← HG.out.ini_ k hkn] at h1
        simp [h1] at q1)
    case false =>
      repeat (first
        | (refine wpList_put hD hV ?hd ?_; (case hd => decide); clear hD hV; (try clear a); intro a hD hV)
        | ((first | refine wpList_plain rfl (fun K hK => ?_) | refine wpList_step (fun K hK => ?_)); go_simp; refine hK _ _ ?_; clear hK K)
        | (refine wp_cond_true ?hc ?_; (case hc => simp [Act.eval, hV, hfs]; done))
        | (refine wp_cond_false ?hc ?_; (case hc => simp [Act.eval, hV, hfs]; done))
        | go_step)
      refine wp_region_quiet_lit (by kernel_rfl) (by kernel_rfl) ?_
      repeat (first
        | (refine wpQuiet_put hD hV ?hd ?_; (case hd => decide); clear hD hV; (try clear a); intro a hD hV)
        | (refine wpQuiet_step (fun K hK => ?_); go_simp; refine hK _ ?_; clear hK K))
      refine wpQuiet_nil ?_
      intro w' hw'
      obtain ⟨nq, hw''⟩ := hw'
      subst hw''
      repeat (first
        | (refine wpList_put hD hV ?hd ?_; (case hd => decide); clear hD hV; (try clear a); intro a hD hV)
        | ((first | refine wpList_plain rfl (fun K hK => ?_) | refine wpList_step (fun K hK => ?_)); go_simp; refine hK _ _ ?_; clear hK K)
        | (refine wp_cond_true ?hc ?_; (case hc => simp [Act.eval, hV, hfs]; done))
        | (refine wp_cond_false ?hc ?_; (case hc => simp [Act.eval, hV, hfs]; done))
        | go_step)
      refine HK.out a _ _ (E.nv - (k + 1)) hD hV (by omega) ⟨k + 1, _, by omega, rfl, rfl, by simp [hfs], ⟨by simp [hfs, h0], by simp [hfs, h3], by simp [hfs, h5], by simp [hfs, h6], by simp [hfs, h7]⟩, by simp [hfs, h20], fun i hi => ?_⟩
      by_cases e : i = k
      · subst e; simpa using q1
      · exact HI.out i (by omega)
  · repeat (first
      | (refine wpList_put hD hV ?hd ?_; (case hd => decide); clear hD hV; (try clear a); intro a hD hV)
      | ((first | refine wpList_plain rfl (fun K hK => ?_) | refine wpList_step (fun K hK => ?_)); go_simp; refine hK _ _ ?_; clear hK K)
      | (refine wp_cond_true ?hc ?_; (case hc => simp [Act.eval, hV, hfs]; done))
      | (refine wp_cond_false ?hc ?_; (case hc => simp [Act.eval, hV, hfs]; done))
      | go_step)
    exact HN.out a _ _ hD hV ⟨by simp [hfs, h0], by simp [hfs, h3], by simp [hfs, h5], by simp [hfs, h6], by simp [hfs, h7]⟩ (bdrewN HW.out _) hB (fun i hi => HI.out i (by omega))

theorem st19 {a : Act} {w : World} {f : Nat → Value} (hR : Rd W B T E D) (hS : Sb W S T E D) (hSB : S < B) (hW : Below B W w) (hB : B ≤ w.heap.size) (hb : Bs T E S f) (hD : a.defers = []) (hV : ∀ j, j < 864 → a.tmps[j]? = some (f j))
    (hNext : ∀ (a : Act) (f : Nat → Value) (w' : World) (g6 : Nat), a.defers = [] → (∀ j, j < 864 → a.tmps[j]? = some (f j)) → Bs T E S f → f 25 = .slice (some ⟨g6, 0, none⟩) E.nv E.nv → Below B W w' → B ≤ w'.heap.size → Own B w' g6 E.nv 21 (fun _ => .int .i32 0) → Q .normal a w') :
    Code.wp Try.prog (sub [1, 1, 1, 1, 1, 1, 1, 1, 1, 1, 1, 1, 1, 1, 1, 1, 1, 1, 1, 0] (Try.f7.body.getD .skip)) Q a w := by
  have hfs := fset_at
  obtain ⟨h0, h3, h5, h6, h7⟩ := hb
  have HN := hide hNext
  have HW := hide hW
  have hmk := mk26 E.nv (by have := hR.m_v; omega)
  clear hNext hW hR hS
  conv => arg 2; whnf
  repeat (first
    | (refine wpList_put hD hV ?hd ?_; (case hd => decide); clear hD hV; (try clear a); intro a hD hV)
    | ((first | refine wpList_plain rfl (fun K hK => ?_) | refine wpList_step (fun K hK => ?_)); go_simp; refine hK _ _ ?_; clear hK K)
    | (refine wp_cond_true ?hc ?_; (case hc => simp [Act.eval, hV, hfs]; done))
    | (refine wp_cond_false ?hc ?_; (case hc => simp [Act.eval, hV, hfs]; done))
    | go_step)
  exact HN.out a _ _ w.heap.size hD hV ⟨by simp [hfs, h0], by simp [hfs, h3], by simp [hfs, h5], by simp [hfs, h6], by simp [hfs, h7]⟩ (by simp [hfs]) (HW.out.alloc hB _) (by simp; omega) (Own.new _ _ _ _ hB)
theorem st20 {a : Act} {w : World} {f : Nat → Value} {g6 : Nat} (hR : Rd W B T E D) (hS : Sb W S T E D) (hSB : S < B) (hW : Below B W w) (hB : B ≤ w.heap.size) (hb : Bs T E S f) (h25 : f 25 = .slice (some ⟨g6, 0, none⟩) E.nv E.nv) (ho6 : Own B w g6 E.nv 21 (fun _ => .int .i32 0)) (hD : a.defers = []) (hV : ∀ j, j < 864 → a.tmps[j]? = some (f j))
    (hNext : ∀ (a : Act) (f : Nat → Value) (w' : World) (g7 : Nat), a.defers = [] → (∀ j, j < 864 → a.tmps[j]? = some (f j)) → Bs T E S f → f 25 = .slice (some ⟨g6, 0, none⟩) E.nv E.nv → f 26 = .slice (some ⟨g7, 0, none⟩) E.nv E.nv → g6 < g7 → Below B W w' → B ≤ w'.heap.size → Own B w' g6 E.nv 21 (fun _ => .int .i32 0) → Own B w' g7 E.nv 3 (fun _ => .int .i64 0) → Q .normal a w') :
    Code.wp Try.prog (sub [1, 1, 1, 1, 1, 1, 1, 1, 1, 1, 1, 1, 1, 1, 1, 1, 1, 1, 1, 1, 0] (Try.f7.body.getD .skip)) Q a w := by
  have hfs := fset_at
  obtain ⟨h0, h3, h5, h6, h7⟩ := hb
  have HN := hide hNext
  have HW := hide hW
  have HO6 := hide ho6
  have hmk := mk24 E.nv (by have := hR.m_v; omega)
  clear hNext hW hR hS ho6
  conv => arg 2; whnf
  repeat (first
    | (refine wpList_put hD hV ?hd ?_; (case hd => decide); clear hD hV; (try clear a); intro a hD hV)
    | ((first | refine wpList_plain rfl (fun K hK => ?_) | refine wpList_step (fun K hK => ?_)); go_simp; refine hK _ _ ?_; clear hK K)
    | (refine wp_cond_true ?hc ?_; (case hc => simp [Act.eval, hV, hfs]; done))
    | (refine wp_cond_false ?hc ?_; (case hc => simp [Act.eval, hV, hfs]; done))
    | go_step)
  exact HN.out a _ _ w.heap.size hD hV ⟨by simp [hfs, h0], by simp [hfs, h3], by simp [hfs, h5], by simp [hfs, h6], by simp [hfs, h7]⟩ (by simp [hfs, h25]) (by simp [hfs]) HO6.out.arr.lt (HW.out.alloc hB _) (by simp; omega) (HO6.out.alloc _) (Own.new _ _ _ _ hB)
theorem st21 {a : Act} {w : World} {f : Nat → Value} {g6 g7 : Nat} (hR : Rd W B T E D) (hS : Sb W S T E D) (hSB : S < B) (hW : Below B W w) (hB : B ≤ w.heap.size) (hb : Bs T E S f) (h25 : f 25 = .slice (some ⟨g6, 0, none⟩) E.nv E.nv) (h26 : f 26 = .slice (some ⟨g7, 0, none⟩) E.nv E.nv) (ho6 : Own B w g6 E.nv 21 (fun _ => .int .i32 0)) (ho7 : Own B w g7 E.nv 3 (fun _ => .int .i64 0)) (hD : a.defers = []) (hV : ∀ j, j < 864 → a.tmps[j]? = some (f j))
    (hNext : ∀ (a : Act) (f : Nat → Value) (w' : World) (g8 : Nat), a.defers = [] → (∀ j, j < 864 → a.tmps[j]? = some (f j)) → Bs T E S f → f 25 = .slice (some ⟨g6, 0, none⟩) E.nv E.nv → f 26 = .slice (some ⟨g7, 0, none⟩) E.nv E.nv → f 27 = .slice (some ⟨g8, 0, none⟩) E.nv E.nv → g7 < g8 → Below B W w' → B ≤ w'.heap.size → Own B w' g6 E.nv 21 (fun _ => .int .i32 0) → Own B w' g7 E.nv 3 (fun _ => .int .i64 0) → Own B w' g8 E.nv 3 (fun _ => .int .i64 0) → Q .normal a w') :
    Code.wp Try.prog (sub [1, 1, 1, 1, 1, 1, 1, 1, 1, 1, 1, 1, 1, 1, 1, 1, 1, 1, 1, 1, 1, 0] (Try.f7.body.getD .skip)) Q a w := by
  have hfs := fset_at
  obtain ⟨h0, h3, h5, h6, h7⟩ := hb
  have HN := hide hNext
  have HW := hide hW
  have HO6 := hide ho6
  have HO7 := hide ho7
  have hmk := mk24 E.nv (by have := hR.m_v; omega)
  clear hNext hW hR hS ho6 ho7
  conv => arg 2; whnf
  repeat (first
    | (refine wpList_put hD hV ?hd ?_; (case hd => decide); clear hD hV; (try clear a); intro a hD hV)
    | ((first | refine wpList_plain rfl (fun K hK => ?_) | refine wpList_step (fun K hK => ?_)); go_simp; refine hK _ _ ?_; clear hK K)
    | (refine wp_cond_true ?hc ?_; (case hc => simp [Act.eval, hV, hfs]; done))
    | (refine wp_cond_false ?hc ?_; (case hc => simp [Act.eval, hV, hfs]; done))
    | go_step)
  exact HN.out a _ _ w.heap.size hD hV ⟨by simp [hfs, h0], by simp [hfs, h3], by simp [hfs, h5], by simp [hfs, h6], by simp [hfs, h7]⟩ (by simp [hfs, h25]) (by simp [hfs, h26]) (by simp [hfs]) HO7.out.arr.lt (HW.out.alloc hB _) (by simp; omega) (HO6.out.alloc _) (HO7.out.alloc _) (Own.new _ _ _ _ hB)

theorem st22 {a : Act} {w : World} {f : Nat → Value} {g6 g7 g8 : Nat} (hR : Rd W B T E D) (hS : Sb W S T E D) (hSB : S < B) (hW : Below B W w) (hB : B ≤ w.heap.size) (hb : Bs T E S f) (h25 : f 25 = .slice (some ⟨g6, 0, none⟩) E.nv E.nv) (h26 : f 26 = .slice (some ⟨g7, 0, none⟩) E.nv E.nv) (h27 : f 27 = .slice (some ⟨g8, 0, none⟩) E.nv E.nv) (l67 : g6 < g7) (l78 : g7 < g8)
    (ho6 : Own B w g6 E.nv 21 (fun _ => .int .i32 0)) (ho7 : Own B w g7 E.nv 3 (fun _ => .int .i64 0)) (ho8 : Own B w g8 E.nv 3 (fun _ => .int .i64 0)) (hD : a.defers = []) (hV : ∀ j, j < 864 → a.tmps[j]? = some (f j))
    (hNext : ∀ (a : Act) (f : Nat → Value) (w' : World), a.defers = [] → (∀ j, j < 864 → a.tmps[j]? = some (f j)) → Bs T E S f → f 25 = .slice (some ⟨g6, 0, none⟩) E.nv E.nv → f 26 = .slice (some ⟨g7, 0, none⟩) E.nv E.nv → f 27 = .slice (some ⟨g8, 0, none⟩) E.nv E.nv → Below B W w' → B ≤ w'.heap.size → Own B w' g6 E.nv 21 (fun _ => .int .i32 0) → Own B w' g7 E.nv 3 (fun _ => .int .i64 0) → Own B w' g8 E.nv 3 (fun _ => .int .i64 (-1)) → Q .normal a w') :
    Code.wp Try.prog (sub [1, 1, 1, 1, 1, 1, 1, 1, 1, 1, 1, 1, 1, 1, 1, 1, 1, 1, 1, 1, 1, 1, 0] (Try.f7.body.getD .skip)) Q a w := by
  have hfs := fset_at
  obtain ⟨h0, h3, h5, h6, h7⟩ := hb
  have HN := hide hNext
  have HO6 := hide ho6
  have HO7 := hide ho7
  have HO8 := hide ho8
  have HW := hide hW
  have m1 := hR.m_v
  clear hNext ho6 ho7 ho8 hW hR hS
  conv => arg 2; whnf
  repeat (first
    | (refine wpList_put hD hV ?hd ?_; (case hd => decide); clear hD hV; (try clear a); intro a hD hV)
    | ((first | refine wpList_plain rfl (fun K hK => ?_) | refine wpList_step (fun K hK => ?_)); go_simp; refine hK _ _ ?_; clear hK K)
    | (refine wp_cond_true ?hc ?_; (case hc => simp [Act.eval, hV, hfs]; done))
    | (refine wp_cond_false ?hc ?_; (case hc => simp [Act.eval, hV, hfs]; done))
    | go_step)
  refine wp_loop_f (N := 864) (fun m f w' => ∃ k, k ≤ E.nv ∧ m = E.nv - k ∧ f 28 = .int .i64 (k : Nat) ∧ Bs T E S f ∧ f 25 = .slice (some ⟨g6, 0, none⟩) E.nv E.nv ∧ f 26 = .slice (some ⟨g7, 0, none⟩) E.nv E.nv ∧ f 27 = .slice (some ⟨g8, 0, none⟩) E.nv E.nv ∧ Below B W w' ∧ B ≤ w'.heap.size ∧
    Own B w' g6 E.nv 21 (fun _ => .int .i32 0) ∧ Own B w' g7 E.nv 3 (fun _ => .int .i64 0) ∧ Own B w' g8 E.nv 3 (fun j => if j < k then .int .i64 (-1) else .int .i64 0)) E.nv hD hV
    ⟨0, by omega, by omega, by simp [hfs], ⟨by simp [hfs, h0], by simp [hfs, h3], by simp [hfs, h5], by simp [hfs, h6], by simp [hfs, h7]⟩, by simp [hfs, h25], by simp [hfs, h26], by simp [hfs, h27], HW.out, hB, HO6.out, HO7.out, by simpa using HO8.out⟩ ?_
  clear h0 h3 h5 h6 h7 h25 h26 h27 hD hV a f HO6 HO7 HO8 HW
  intro m f w' a hD hV ⟨k, hk, hm', h28, hb, h25, h26, h27, hbel, hB', ho6, ho7, ho8⟩ K hK
  obtain ⟨h0, h3, h5, h6, h7⟩ := hb
  have HO6 := hide ho6
  have HO7 := hide ho7
  have HO8 := hide ho8
  have HB := hide hbel
  clear ho6 ho7 ho8 hbel
  by_cases hkn : k < E.nv
  · have c1 := HO8.out.arr.cell hkn
    have c2 := HO8.out.arr.frozen k
    simp only [Nat.lt_irrefl, if_false] at c1
    have e2 : IntKind.i64.wrap ((k : Int) + 1) = (k : Int) + 1 := wrap64 (by unfold i64; omega)
    repeat (first
      | (refine wpList_put hD hV ?hd ?_; (case hd => decide); clear hD hV; (try clear a); intro a hD hV)
      | ((first | refine wpList_plain rfl (fun K hK => ?_) | refine wpList_step (fun K hK => ?_)); go_simp; refine hK _ _ ?_; clear hK K)
      | (refine wp_cond_true ?hc ?_; (case hc => simp [Act.eval, hV, hfs]; done))
      | (refine wp_cond_false ?hc ?_; (case hc => simp [Act.eval, hV, hfs]; done))
      | go_step)
    exact hK a _ _ (E.nv - (k + 1)) hD hV (by omega) ⟨k + 1, by omega, rfl, by simp [hfs], ⟨by simp [hfs, h0], by simp [hfs, h3], by simp [hfs, h5], by simp [hfs, h6], by simp [hfs, h7]⟩, by simp [hfs, h25], by simp [hfs, h26], by simp [hfs, h27], HB.out.setCell HO8.out.ge _, by simpa using hB', HO6.out.far (by show g6 ≠ g8; omega) _, HO7.out.far (by show g7 ≠ g8; omega) _, (HO8.out.set hkn _).congr (fun j hj => fill_step _ _ _ _)⟩
  · repeat (first
      | (refine wpList_put hD hV ?hd ?_; (case hd => decide); clear hD hV; (try clear a); intro a hD hV)
      | ((first | refine wpList_plain rfl (fun K hK => ?_) | refine wpList_step (fun K hK => ?_)); go_simp; refine hK _ _ ?_; clear hK K)
      | (refine wp_cond_true ?hc ?_; (case hc => simp [Act.eval, hV, hfs]; done))
      | (refine wp_cond_false ?hc ?_; (case hc => simp [Act.eval, hV, hfs]; done))
      | go_step)
    exact HN.out a _ _ hD hV ⟨by simp [hfs, h0], by simp [hfs, h3], by simp [hfs, h5], by simp [hfs, h6], by simp [hfs, h7]⟩ (by simp [hfs, h25]) (by simp [hfs, h26]) (by simp [hfs, h27]) HB.out hB' HO6.out HO7.out (HO8.out.congr (fun j hj => by rw [if_pos (by omega)]))
end
end Go.Proofs.Qxb6616080a
