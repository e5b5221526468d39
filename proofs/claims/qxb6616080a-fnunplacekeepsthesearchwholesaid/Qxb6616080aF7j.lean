import Derived.Test.Qxb6616080aF7i
namespace Go.Proofs.Qxb6616080a
open Go.RowKit
set_option linter.unusedVariables false
set_option linter.unusedSimpArgs false
set_option maxRecDepth 100000

section
variable {Q : Exit → Act → World → Prop} {W : World} {T : Ad} {E : Env} {D : Dyn} {B S : Nat} {mix : Nat → Nat}

set_option maxHeartbeats 1000000 in
theorem st24 {a : Act} {w : World} {f : Nat → Value} {g6 g7 : Nat} {hf hs : Nat → Int} (hR : Rd W B T E D) (hS : Sb W S T E D) (hSB : S < B) (hW : Below B W w) (hB : B ≤ w.heap.size) (hb : Bs T E S f) (h25 : f 25 = .slice (some ⟨g6, 0, none⟩) E.nv E.nv) (h26 : f 26 = .slice (some ⟨g7, 0, none⟩) E.nv E.nv)
    (ho6 : Own B w g6 E.nv 21 (fun j => .int .i32 (hf j))) (ho7 : Own B w g7 E.nv 3 (fun j => .int .i64 (hs j)))
    (e1 : ∀ v, v < E.nv → hf v = (cnt E.nc (fun c' => E.hold (D.next c') v c') : Nat)) (e2 : ∀ v, v < E.nv → hs v = (sumIf E.nc (fun c' => E.hold (D.next c') v c') : Nat)) (hD : a.defers = []) (hV : ∀ j, j < 864 → a.tmps[j]? = some (f j))
    (hNext : ∀ (a : Act) (f : Nat → Value) (w' : World), a.defers = [] → (∀ j, j < 864 → a.tmps[j]? = some (f j)) → Bs T E S f → Below B W w' → B ≤ w'.heap.size → (∀ v, v < E.nv → D.holders v = hf v ∧ D.holderSum v = hs v) → Q .normal a w')
    (hRet : ∀ (a : Act) (f : Nat → Value) (w : World), a.defers = [] → (∀ j, j < 864 → a.tmps[j]? = some (f j)) → f 4 = .bool false → Below B W w → ¬ Holds E D mix → Q .ret a w) : Code.wp Try.prog (sub [1, 1, 1, 1, 1, 1, 1, 1, 1, 1, 1, 1, 1, 1, 1, 1, 1, 1, 1, 1, 1, 1, 1, 1, 0] (Try.f7.body.getD .skip)) Q a w := by
  have hfs := fset_at
  obtain ⟨h0, h3, h5, h6, h7⟩ := hb
  have HN := hide hNext
  have HR := hide hRet
  have HO6 := hide ho6
  have HO7 := hide ho7
  have HW := hide hW
  have HE1 := hide e1
  have HE2 := hide e2
  have HRw := hide (hR.below hW)
  have s8 : w.cell? ⟨S, 8, none⟩ = some (.slice (T.A 8) E.nv (T.cap 8)) := hS.below hW hSB 8 (by decide)
  have s9 : w.cell? ⟨S, 9, none⟩ = some (.slice (T.A 9) E.nv (T.cap 9)) := hS.below hW hSB 9 (by decide)
  have m1 := hR.m_v
  clear hNext hRet ho6 ho7 hR hS hW e1 e2
  conv => arg 2; whnf
  repeat (first
    | (refine wpList_put hD hV ?hd ?_; (case hd => decide); clear hD hV; (try clear a); intro a hD hV)
    | ((first | refine wpList_plain rfl (fun K hK => ?_) | refine wpList_step (fun K hK => ?_)); go_simp; refine hK _ _ ?_; clear hK K)
    | (refine wp_cond_true ?hc ?_; (case hc => simp [Act.eval, hV, hfs]; done))
    | (refine wp_cond_false ?hc ?_; (case hc => simp [Act.eval, hV, hfs]; done))
    | go_step)
  refine wp_loop_f (N := 864) (fun m f w' => ∃ (k q : Nat), k ≤ E.nv ∧ m = E.nv - k ∧ w' = w.drewN q ∧ f 35 = .int .i64 (k : Nat) ∧ Bs T E S f ∧ f 25 = .slice (some ⟨g6, 0, none⟩) E.nv E.nv ∧ f 26 = .slice (some ⟨g7, 0, none⟩) E.nv E.nv ∧
    (∀ v, v < k → D.holders v = hf v ∧ D.holderSum v = hs v)) E.nv hD hV
    ⟨0, 0, by omega, by omega, rfl, by simp [hfs], ⟨by simp [hfs, h0], by simp [hfs, h3], by simp [hfs, h5], by simp [hfs, h6], by simp [hfs, h7]⟩, by simp [hfs, h25], by simp [hfs, h26], fun _ h => by omega⟩ ?_
  clear h0 h3 h5 h6 h7 h25 h26 hD hV a f
  intro m f w' a hD hV ⟨k, q, hk, hm', hw, h35, hb, h25, h26, hI⟩ K hK
  subst hw
  obtain ⟨h0, h3, h5, h6, h7⟩ := hb
  have HK := hide hK
  have HI := hide hI
  clear hK hI
  by_cases hkn : k < E.nv
  · have n8 := HRw.out.n8 (by omega)
    have n9 := HRw.out.n9 (by omega)
    have d8 := HRw.out.d8 k hkn
    have d9 := HRw.out.d9 k hkn
    have c6 := HO6.out.arr.cell hkn
    have c7 := HO7.out.arr.cell hkn
    have e4 : IntKind.i64.wrap ((k : Int) + 1) = (k : Int) + 1 := wrap64 (by unfold i64; omega)
    cases q1 : (D.holders k != hf k)
    case true =>
      repeat (first
        | (refine wpList_put hD hV ?hd ?_; (case hd => decide); clear hD hV; (try clear a); intro a hD hV)
        | ((first | refine wpList_plain rfl (fun K hK => ?_) | refine wpList_step (fun K hK => ?_)); go_simp; refine hK _ _ ?_; clear hK K)
        | (refine wp_cond_true ?hc ?_; (case hc => simp [Act.eval, hV, hfs]; done))
        | (refine wp_cond_false ?hc ?_; (case hc => simp [Act.eval, hV, hfs]; done))
        | go_step)
      refine wp_region_quiet_lit (by kernel_rfl) (by kernel_rfl) ?_
      repeat (first
        | (refine wpQuiet_put hD hV ?hd ?_; (case hd => decide); clear hD hV; (try clear a); intro a hD hV)
        | (refine wpQuiet_step (fun K hK => ?_); go_simp; refine hK _ ?_; clear hK K))
      refine wpQuiet_nil ?_
      intro w' hw'
      obtain ⟨nq, hw''⟩ := hw'
      subst hw''
      repeat (first
        | (refine wpList_put hD hV ?hd ?_; (case hd => decide); clear hD hV; (try clear a); intro a hD hV)
        | ((first | refine wpList_plain rfl (fun K hK => ?_) | refine wpList_step (fun K hK => ?_)); go_simp; refine hK _ _ ?_; clear hK K)
        | (refine wp_cond_true ?hc ?_; (case hc => simp [Act.eval, hV, hfs]; done))
        | (refine wp_cond_false ?hc ?_; (case hc => simp [Act.eval, hV, hfs]; done))
        | go_step)
      exact HR.out a _ _ hD hV (by simp [hfs]) (bdrewN HW.out _) (fun h => by
        have h1 := h.ho k hkn
        rw [← HE1.out k hkn] at h1
        simp [h1] at q1)
    case false =>
      cases q2 : (D.holderSum k != hs k)
      case true =>
        repeat (first
          | (refine wpList_put hD hV ?hd ?_; (case hd => decide); clear hD hV; (try clear a); intro a hD hV)
          | ((first | refine wpList_plain rfl (fun K hK => ?_) | refine wpList_step (fun K hK => ?_)); go_simp; refine hK _ _ ?_; clear hK K)
          | (refine wp_cond_true ?hc ?_; (case hc => simp [Act.eval, hV, hfs]; done))
          | (refine wp_cond_false ?hc ?_; (case hc => simp [Act.eval, hV, hfs]; done))
          | go_step)
        refine wp_region_quiet_lit (by kernel_rfl) (by kernel_rfl) ?_
        repeat (first
          | (refine wpQuiet_put hD hV ?hd ?_; (case hd => decide); clear hD hV; (try clear a); intro a hD hV)
          | (refine wpQuiet_step (fun K hK => ?_); go_simp; refine hK _ ?_; clear hK K))
        refine wpQuiet_nil ?_
        intro w' hw'
        obtain ⟨nq, hw''⟩ := hw'
        subst hw''
        repeat (first
          | (refine wpList_put hD hV ?hd ?_; (case hd => decide); clear hD hV; (try clear a); intro a hD hV)
          | ((first | refine wpList_plain rfl (fun K hK => ?_) | refine wpList_step (fun K hK => ?_)); go_simp; refine hK _ _ ?_; clear hK K)
          | (refine wp_cond_true ?hc ?_; (case hc => simp [Act.eval, hV, hfs]; done))
          | (refine wp_cond_false ?hc ?_; (case hc => simp [Act.eval, hV, hfs]; done))
          | go_step)
        exact HR.out a _ _ hD hV (by simp [hfs]) (bdrewN HW.out _) (fun h => by
          have h1 := h.hs k hkn
          rw [← HE2.out k hkn] at h1
          simp [h1] at q2)
      case false =>
        repeat (first
          | (refine wpList_put hD hV ?hd ?_; (case hd => decide); clear hD hV; (try clear a); intro a hD hV)
          | ((first | refine wpList_plain rfl (fun K hK => ?_) | refine wpList_step (fun K hK => ?_)); go_simp; refine hK _ _ ?_; clear hK K)
          | (refine wp_cond_true ?hc ?_; (case hc => simp [Act.eval, hV, hfs]; done))
          | (refine wp_cond_false ?hc ?_; (case hc => simp [Act.eval, hV, hfs]; done))
          | go_step)
        refine wp_region_quiet_lit (by kernel_rfl) (by kernel_rfl) ?_
        repeat (first
          | (refine wpQuiet_put hD hV ?hd ?_; (case hd => decide); clear hD hV; (try clear a); intro a hD hV)
          | (refine wpQuiet_step (fun K hK => ?_); go_simp; refine hK _ ?_; clear hK K))
        refine wpQuiet_nil ?_
        intro w' hw'
        obtain ⟨nq, hw''⟩ := hw'
        subst hw''
        repeat (first
          | (refine wpList_put hD hV ?hd ?_; (case hd => decide); clear hD hV; (try clear a); intro a hD hV)
          | ((first | refine wpList_plain rfl (fun K hK => ?_) | refine wpList_step (fun K hK => ?_)); go_simp; refine hK _ _ ?_; clear hK K)
          | (refine wp_cond_true ?hc ?_; (case hc => simp [Act.eval, hV, hfs]; done))
          | (refine wp_cond_false ?hc ?_; (case hc => simp [Act.eval, hV, hfs]; done))
          | go_step)
        refine HK.out a _ _ (E.nv - (k + 1)) hD hV (by omega) ⟨k + 1, _, by omega, rfl, rfl, by simp [hfs], ⟨by simp [hfs, h0], by simp [hfs, h3], by simp [hfs, h5], by simp [hfs, h6], by simp [hfs, h7]⟩, by simp [hfs, h25], by simp [hfs, h26], fun i hi => ?_⟩
        by_cases e : i = k
        · subst e; exact ⟨by simpa using q1, by simpa using q2⟩
        · exact HI.out i (by omega)
  · repeat (first
      | (refine wpList_put hD hV ?hd ?_; (case hd => decide); clear hD hV; (try clear a); intro a hD hV)
      | ((first | refine wpList_plain rfl (fun K hK => ?_) | refine wpList_step (fun K hK => ?_)); go_simp; refine hK _ _ ?_; clear hK K)
      | (refine wp_cond_true ?hc ?_; (case hc => simp [Act.eval, hV, hfs]; done))
      | (refine wp_cond_false ?hc ?_; (case hc => simp [Act.eval, hV, hfs]; done))
      | go_step)
    exact HN.out a _ _ hD hV ⟨by simp [hfs, h0], by simp [hfs, h3], by simp [hfs, h5], by simp [hfs, h6], by simp [hfs, h7]⟩ (bdrewN HW.out _) hB (fun i hi => HI.out i (by omega))

set_option maxHeartbeats 2000000 in
theorem st25 {a : Act} {w : World} {f : Nat → Value} (hR : Rd W B T E D) (hS : Sb W S T E D) (hSB : S < B) (hW : Below B W w) (hB : B ≤ w.heap.size) (hb : Bs T E S f) (hD : a.defers = []) (hV : ∀ j, j < 864 → a.tmps[j]? = some (f j))
    (hNext : ∀ (a : Act) (f : Nat → Value), a.defers = [] → (∀ j, j < 864 → a.tmps[j]? = some (f j)) → Bs T E S f →
      (∀ v, v < E.nv → D.current v ≠ -1 → (0 ≤ D.current v ∧ D.current v < E.n) ∧ E.wr (D.current v).toNat = true ∧ E.vv (D.current v).toNat = (v : Int) ∧ D.placed (D.current v).toNat = true) → Q .normal a w)
    (hRet : ∀ (a : Act) (f : Nat → Value) (w : World), a.defers = [] → (∀ j, j < 864 → a.tmps[j]? = some (f j)) → f 4 = .bool false → Below B W w → ¬ Holds E D mix → Q .ret a w) : Code.wp Try.prog (sub [1, 1, 1, 1, 1, 1, 1, 1, 1, 1, 1, 1, 1, 1, 1, 1, 1, 1, 1, 1, 1, 1, 1, 1, 1, 0] (Try.f7.body.getD .skip)) Q a w := by
  have hfs := fset_at
  obtain ⟨h0, h3, h5, h6, h7⟩ := hb
  have HN := hide hNext
  have HR := hide hRet
  have HW := hide hW
  have HRw := hide (hR.below hW)
  have s5 : w.cell? ⟨S, 5, none⟩ = some (.slice (T.A 5) E.nv (T.cap 5)) := hS.below hW hSB 5 (by decide)
  have s4 : w.cell? ⟨S, 4, none⟩ = some (.slice (T.A 4) E.n (T.cap 4)) := hS.below hW hSB 4 (by decide)
  have m1 := hR.m_v
  have m2 := hR.m_n
  clear hNext hRet hR hS hW
  conv => arg 2; whnf
  repeat (first
    | (refine wpList_put hD hV ?hd ?_; (case hd => decide); clear hD hV; (try clear a); intro a hD hV)
    | ((first | refine wpList_plain rfl (fun K hK => ?_) | refine wpList_step (fun K hK => ?_)); go_simp; refine hK _ _ ?_; clear hK K)
    | (refine wp_cond_true ?hc ?_; (case hc => simp [Act.eval, hV, hfs]; done))
    | (refine wp_cond_false ?hc ?_; (case hc => simp [Act.eval, hV, hfs]; done))
    | go_step)
  refine wp_loop_f (N := 864) (fun m f w' => ∃ (k : Nat), k ≤ E.nv ∧ m = E.nv - k ∧ w' = w ∧ f 36 = .int .i64 (k : Nat) ∧ Bs T E S f ∧
    (∀ v, v < k → D.current v ≠ -1 → (0 ≤ D.current v ∧ D.current v < E.n) ∧ E.wr (D.current v).toNat = true ∧ E.vv (D.current v).toNat = (v : Int) ∧ D.placed (D.current v).toNat = true)) E.nv hD hV
    ⟨0, by omega, by omega, rfl, by simp [hfs], ⟨by simp [hfs, h0], by simp [hfs, h3], by simp [hfs, h5], by simp [hfs, h6], by simp [hfs, h7]⟩, fun _ h => by omega⟩ ?_
  clear h0 h3 h5 h6 h7 hD hV a f
  intro m f w' a hD hV ⟨k, hk, hm', hw, h36, hb, hI⟩ K hK
  obtain rfl : w = w' := hw.symm
  obtain ⟨h0, h3, h5, h6, h7⟩ := hb
  have HK := hide hK
  have HI := hide hI
  clear hK hI hw
  by_cases hkn : k < E.nv
  · have n5 := HRw.out.n5 (by omega)
    have d5 := HRw.out.d5 k hkn
    have w5 := wrap64' (HRw.out.r_cur k hkn)
    have e4 : IntKind.i64.wrap ((k : Int) + 1) = (k : Int) + 1 := wrap64 (by unfold i64; omega)
    cases q1 : (D.current k == -1)
    case true =>
      repeat (first
        | (refine wpList_put hD hV ?hd ?_; (case hd => decide); clear hD hV; (try clear a); intro a hD hV)
        | ((first | refine wpList_plain rfl (fun K hK => ?_) | refine wpList_step (fun K hK => ?_)); go_simp; refine hK _ _ ?_; clear hK K)
        | (refine wp_cond_true ?hc ?_; (case hc => simp [Act.eval, hV, hfs]; done))
        | (refine wp_cond_false ?hc ?_; (case hc => simp [Act.eval, hV, hfs]; done))
        | go_step)
      refine HK.out a _ _ (E.nv - (k + 1)) hD hV (by omega) ⟨k + 1, by omega, rfl, rfl, by simp [hfs], ⟨by simp [hfs, h0], by simp [hfs, h3], by simp [hfs, h5], by simp [hfs, h6], by simp [hfs, h7]⟩, fun v hv hne => ?_⟩
      by_cases e : v = k
      · subst e; exact absurd (by simpa using q1) hne
      · exact HI.out v (by omega) hne
    case false =>
      have hne := hide (show D.current k ≠ -1 by simpa using q1)
      by_cases q2 : D.current k < 0
      · repeat (first
          | (refine wpList_put hD hV ?hd ?_; (case hd => decide); clear hD hV; (try clear a); intro a hD hV)
          | ((first | refine wpList_plain rfl (fun K hK => ?_) | refine wpList_step (fun K hK => ?_)); go_simp; refine hK _ _ ?_; clear hK K)
          | (refine wp_cond_true ?hc ?_; (case hc => simp [Act.eval, hV, hfs]; done))
          | (refine wp_cond_false ?hc ?_; (case hc => simp [Act.eval, hV, hfs]; done))
          | go_step)
        exact HR.out a _ _ hD hV (by simp [hfs]) HW.out (fun h => by have := (h.cu k hkn hne.out).1; omega)
      by_cases q3 : (E.n : Int) ≤ D.current k
      · repeat (first
          | (refine wpList_put hD hV ?hd ?_; (case hd => decide); clear hD hV; (try clear a); intro a hD hV)
          | ((first | refine wpList_plain rfl (fun K hK => ?_) | refine wpList_step (fun K hK => ?_)); go_simp; refine hK _ _ ?_; clear hK K)
          | (refine wp_cond_true ?hc ?_; (case hc => simp [Act.eval, hV, hfs]; done))
          | (refine wp_cond_false ?hc ?_; (case hc => simp [Act.eval, hV, hfs]; done))
          | go_step)
        exact HR.out a _ _ hD hV (by simp [hfs]) HW.out (fun h => by have := (h.cu k hkn hne.out).1; omega)
      obtain ⟨x, hx⟩ := Int.eq_ofNat_of_zero_le (show 0 ≤ D.current k by omega)
      have hxn : x < E.n := by omega
      rw [hx] at d5 w5 q1
      have q4 : ¬ (x : Int) < 0 := by omega
      have q5 : ¬ (E.n : Int) ≤ (x : Int) := by omega
      have on := HRw.out.on (by omega)
      have o2 := HRw.out.o2 x hxn
      have o3 := HRw.out.o3 x hxn
      have n4 := HRw.out.n4 (by omega)
      have d4 := HRw.out.d4 x hxn
      have wv := wrap64' (HRw.out.r_vv x hxn)
      have HX := hide hx
      clear hx q2 q3
      cases q6 : E.wr x
      case false =>
        repeat (first
          | (refine wpList_put hD hV ?hd ?_; (case hd => decide); clear hD hV; (try clear a); intro a hD hV)
          | ((first | refine wpList_plain rfl (fun K hK => ?_) | refine wpList_step (fun K hK => ?_)); go_simp; refine hK _ _ ?_; clear hK K)
          | (refine wp_cond_true ?hc ?_; (case hc => simp [Act.eval, hV, hfs]; done))
          | (refine wp_cond_false ?hc ?_; (case hc => simp [Act.eval, hV, hfs]; done))
          | go_step)
        exact HR.out a _ _ hD hV (by simp [hfs]) HW.out (fun h => by have := (h.cu k hkn hne.out).2.1; rw [HX.out, Int.toNat_natCast, q6] at this; cases this)
      case true =>
        cases q7 : (E.vv x != (k : Int))
        case true =>
          repeat (first
            | (refine wpList_put hD hV ?hd ?_; (case hd => decide); clear hD hV; (try clear a); intro a hD hV)
            | ((first | refine wpList_plain rfl (fun K hK => ?_) | refine wpList_step (fun K hK => ?_)); go_simp; refine hK _ _ ?_; clear hK K)
            | (refine wp_cond_true ?hc ?_; (case hc => simp [Act.eval, hV, hfs]; done))
            | (refine wp_cond_false ?hc ?_; (case hc => simp [Act.eval, hV, hfs]; done))
            | go_step)
          exact HR.out a _ _ hD hV (by simp [hfs]) HW.out (fun h => by have := (h.cu k hkn hne.out).2.2.1; rw [HX.out, Int.toNat_natCast] at this; simp [this] at q7)
        case false =>
          cases q8 : D.placed x
          case false =>
            repeat (first
              | (refine wpList_put hD hV ?hd ?_; (case hd => decide); clear hD hV; (try clear a); intro a hD hV)
              | ((first | refine wpList_plain rfl (fun K hK => ?_) | refine wpList_step (fun K hK => ?_)); go_simp; refine hK _ _ ?_; clear hK K)
              | (refine wp_cond_true ?hc ?_; (case hc => simp [Act.eval, hV, hfs]; done))
              | (refine wp_cond_false ?hc ?_; (case hc => simp [Act.eval, hV, hfs]; done))
              | go_step)
            exact HR.out a _ _ hD hV (by simp [hfs]) HW.out (fun h => by have := (h.cu k hkn hne.out).2.2.2; rw [HX.out, Int.toNat_natCast, q8] at this; cases this)
          case true =>
            repeat (first
              | (refine wpList_put hD hV ?hd ?_; (case hd => decide); clear hD hV; (try clear a); intro a hD hV)
              | ((first | refine wpList_plain rfl (fun K hK => ?_) | refine wpList_step (fun K hK => ?_)); go_simp; refine hK _ _ ?_; clear hK K)
              | (refine wp_cond_true ?hc ?_; (case hc => simp [Act.eval, hV, hfs]; done))
              | (refine wp_cond_false ?hc ?_; (case hc => simp [Act.eval, hV, hfs]; done))
              | go_step)
            refine HK.out a _ _ (E.nv - (k + 1)) hD hV (by omega) ⟨k + 1, by omega, rfl, rfl, by simp [hfs], ⟨by simp [hfs, h0], by simp [hfs, h3], by simp [hfs, h5], by simp [hfs, h6], by simp [hfs, h7]⟩, fun v hv hne => ?_⟩
            by_cases e : v = k
            · subst e
              rw [HX.out, Int.toNat_natCast]
              exact ⟨⟨by omega, by omega⟩, q6, by simpa using q7, q8⟩
            · exact HI.out v (by omega) hne
  · repeat (first
      | (refine wpList_put hD hV ?hd ?_; (case hd => decide); clear hD hV; (try clear a); intro a hD hV)
      | ((first | refine wpList_plain rfl (fun K hK => ?_) | refine wpList_step (fun K hK => ?_)); go_simp; refine hK _ _ ?_; clear hK K)
      | (refine wp_cond_true ?hc ?_; (case hc => simp [Act.eval, hV, hfs]; done))
      | (refine wp_cond_false ?hc ?_; (case hc => simp [Act.eval, hV, hfs]; done))
      | go_step)
    exact HN.out a _ hD hV ⟨by simp [hfs, h0], by simp [hfs, h3], by simp [hfs, h5], by simp [hfs, h6], by simp [hfs, h7]⟩ (fun i hi => HI.out i (by omega))

theorem st26 {a : Act} {w : World} {f : Nat → Value} (hR : Rd W B T E D) (hS : Sb W S T E D) (hSB : S < B) (hW : Below B W w) (hB : B ≤ w.heap.size) (hb : Bs T E S f) (hD : a.defers = []) (hV : ∀ j, j < 864 → a.tmps[j]? = some (f j))
    (hNext : ∀ (a : Act) (f : Nat → Value) (w' : World) (g9 : Nat), a.defers = [] → (∀ j, j < 864 → a.tmps[j]? = some (f j)) → Bs T E S f → f 38 = .slice (some ⟨g9, 0, none⟩) E.nc E.nc → Below B W w' → B ≤ w'.heap.size → Own B w' g9 E.nc 4 (fun _ => .bool false) → Q .normal a w') :
    Code.wp Try.prog (sub [1, 1, 1, 1, 1, 1, 1, 1, 1, 1, 1, 1, 1, 1, 1, 1, 1, 1, 1, 1, 1, 1, 1, 1, 1, 1, 0] (Try.f7.body.getD .skip)) Q a w := by
  have hfs := fset_at
  obtain ⟨h0, h3, h5, h6, h7⟩ := hb
  have HN := hide hNext
  have HW := hide hW
  have hmk := mk25 E.nc (by have := hR.m_c; omega)
  clear hNext hW hR hS
  conv => arg 2; whnf
  repeat (first
    | (refine wpList_put hD hV ?hd ?_; (case hd => decide); clear hD hV; (try clear a); intro a hD hV)
    | ((first | refine wpList_plain rfl (fun K hK => ?_) | refine wpList_step (fun K hK => ?_)); go_simp; refine hK _ _ ?_; clear hK K)
    | (refine wp_cond_true ?hc ?_; (case hc => simp [Act.eval, hV, hfs]; done))
    | (refine wp_cond_false ?hc ?_; (case hc => simp [Act.eval, hV, hfs]; done))
    | go_step)
  exact HN.out a _ _ w.heap.size hD hV ⟨by simp [hfs, h0], by simp [hfs, h3], by simp [hfs, h5], by simp [hfs, h6], by simp [hfs, h7]⟩ (by simp [hfs]) (HW.out.alloc hB _) (by simp; omega) (Own.new _ _ _ _ hB)

set_option maxHeartbeats 2000000 in
theorem st27 {a : Act} {w : World} {f : Nat → Value} {g9 : Nat} (hR : Rd W B T E D) (hS : Sb W S T E D) (hSB : S < B) (hW : Below B W w) (hB : B ≤ w.heap.size) (hb : Bs T E S f) (h38 : f 38 = .slice (some ⟨g9, 0, none⟩) E.nc E.nc) (ho : Own B w g9 E.nc 4 (fun _ => .bool false))
    (hchr : ∀ c, c < E.nc → ∀ k, k < E.cl c → 0 ≤ E.ch c k ∧ E.ch c k < E.n) (hnx : ∀ c, c < E.nc → 0 ≤ D.next c ∧ D.next c ≤ E.cl c) (hD : a.defers = []) (hV : ∀ j, j < 864 → a.tmps[j]? = some (f j))
    (hNext : ∀ (a : Act) (f : Nat → Value) (w' : World), a.defers = [] → (∀ j, j < 864 → a.tmps[j]? = some (f j)) → Bs T E S f → f 38 = .slice (some ⟨g9, 0, none⟩) E.nc E.nc → Below B W w' → B ≤ w'.heap.size → Own B w' g9 E.nc 4 (fun c => .bool (E.chosen c (D.next c))) →
      (∀ c, c < E.nc → D.K.of c = E.unreadOf c (D.next c)) → Q .normal a w')
    (hRet : ∀ (a : Act) (f : Nat → Value) (w : World), a.defers = [] → (∀ j, j < 864 → a.tmps[j]? = some (f j)) → f 4 = .bool false → Below B W w → ¬ Holds E D mix → Q .ret a w) : Code.wp Try.prog (sub [1, 1, 1, 1, 1, 1, 1, 1, 1, 1, 1, 1, 1, 1, 1, 1, 1, 1, 1, 1, 1, 1, 1, 1, 1, 1, 1, 0] (Try.f7.body.getD .skip)) Q a w := by
  have hfs := fset_at
  obtain ⟨h0, h3, h5, h6, h7⟩ := hb
  have HN := hide hNext
  have HR := hide hRet
  have HO := hide ho
  have HRd := hide hR
  have HS := hide hS
  have HW := hide hW
  have HC := hide hchr
  have HX := hide hnx
  have m2 := hR.m_c
  clear hNext hRet ho hR hS hW hchr hnx
  conv => arg 2; whnf
  repeat (first
    | (refine wpList_put hD hV ?hd ?_; (case hd => decide); clear hD hV; (try clear a); intro a hD hV)
    | ((first | refine wpList_plain rfl (fun K hK => ?_) | refine wpList_step (fun K hK => ?_)); go_simp; refine hK _ _ ?_; clear hK K)
    | (refine wp_cond_true ?hc ?_; (case hc => simp [Act.eval, hV, hfs]; done))
    | (refine wp_cond_false ?hc ?_; (case hc => simp [Act.eval, hV, hfs]; done))
    | go_step)
  refine wp_loop_f (N := 864) (fun m f w' => ∃ (c : Nat), c ≤ E.nc ∧ m = E.nc - c ∧ f 39 = .int .i64 (c : Nat) ∧ Bs T E S f ∧ f 38 = .slice (some ⟨g9, 0, none⟩) E.nc E.nc ∧ Below B W w' ∧ B ≤ w'.heap.size ∧
    Own B w' g9 E.nc 4 (fun c' => .bool (decide (c' < c) && E.chosen c' (D.next c'))) ∧ (∀ c', c' < c → D.K.of c' = E.unreadOf c' (D.next c'))) E.nc hD hV
    ⟨0, by omega, by omega, by simp [hfs], ⟨by simp [hfs, h0], by simp [hfs, h3], by simp [hfs, h5], by simp [hfs, h6], by simp [hfs, h7]⟩, by simp [hfs, h38], HW.out, hB, HO.out.congr (fun j _ => by simp), fun _ h => by omega⟩ ?_
  clear h0 h3 h5 h6 h7 h38 hD hV a f HO HW
  intro m f w' a hD hV ⟨c, hc, hm', h39, hb, h38, hbel, hB', ho, hI⟩ K hK
  obtain ⟨h0, h3, h5, h6, h7⟩ := hb
  have HO := hide ho
  have HB := hide hbel
  have HK := hide hK
  have HI := hide hI
  clear ho hbel hK hI
  by_cases hcn : c < E.nc
  · have HRw := hide (HRd.out.below HB.out)
    have s1 : w'.cell? ⟨S, 1, none⟩ = some (.slice (T.A 1) E.nc (T.cap 1)) := HS.out.below HB.out hSB 1 (by decide)
    have s2 : w'.cell? ⟨S, 2, none⟩ = some (.slice (T.A 2) E.nc (T.cap 2)) := HS.out.below HB.out hSB 2 (by decide)
    have s7 : w'.cell? ⟨S, 7, none⟩ = some (.slice (T.A 7) E.n (T.cap 7)) := HS.out.below HB.out hSB 7 (by decide)
    have s15 : w'.cell? ⟨S, 15, none⟩ = some (.slice (T.A 15) E.nc (T.cap 15)) := HS.out.below HB.out hSB 15 (by decide)
    have n1 := HRw.out.n1 (by omega)
    have n2 := HRw.out.n2 (by omega)
    have n15 := HRw.out.n15 (by omega)
    have d1 := HRw.out.d1 c hcn
    have d2 := HRw.out.d2 c hcn
    have d15 := HRw.out.d15 c hcn
    have hml := HRw.out.m_cl c hcn
    have e4 : IntKind.i64.wrap ((c : Int) + 1) = (c : Int) + 1 := wrap64 (by unfold i64; omega)
    obtain ⟨kk, hkk⟩ := Int.eq_ofNat_of_zero_le (HX.out c hcn).1
    rw [hkk] at d2
    have HKK := hide hkk
    clear hkk
    -- the round's end, where nothing is chosen
    have fin0 : Hid (∀ (g : Nat → Value) (a : Act) (q : Nat), a.defers = [] → (∀ j, j < 864 → a.tmps[j]? = some (g j)) → g 39 = .int .i64 ((c : Int) + 1) → Bs T E S g → g 38 = .slice (some ⟨g9, 0, none⟩) E.nc E.nc → E.chosen c (D.next c) = false → D.K.of c = E.unreadOf c (D.next c) → K a (w'.drewN q)) := by
      intro g a q h1 h2 h3 h4 h5 h6 h7
      refine HK.out a _ g (E.nc - (c + 1)) h1 h2 (by omega) ⟨c + 1, by omega, rfl, by simp [h3], h4, h5, bdrewN HB.out _, hB', (HO.out.drewN _).congr (fun j hj => ?_), fun c' hc' => ?_⟩
      · by_cases e : j = c
        · subst e; simp [h6]
        · have : decide (j < c) = decide (j < c + 1) := by simp; omega
          rw [this]
      · by_cases e : c' = c
        · subst e; exact h7
        · exact HI.out c' (by omega)
    by_cases q1 : (kk : Int) < (E.cl c : Int)
    · have hkl : kk < E.cl c := by omega
      have cn := HRw.out.cn c hcn (by omega)
      obtain ⟨i, hi⟩ : ∃ i, E.op c kk = i := ⟨_, rfl⟩
      have hoi := opEq HC.out hcn hkl
      rw [hi] at hoi
      obtain ⟨hch, hin⟩ := hoi
      have cd := HRw.out.cd c hcn kk hkl
      rw [hch] at cd
      have on := HRw.out.on (by omega)
      have o2 := HRw.out.o2 i hin
      have o3 := HRw.out.o3 i hin
      have n7 := HRw.out.n7 (by omega)
      have d7 := HRw.out.d7 i hin
      have HI' := hide hi
      clear hch hi
      cases q2 : E.wr i
      case false =>
        have hc0 : Hid (E.chosen c (D.next c) = false) := by show _ = _; unfold Env.chosen; rw [HKK.out, Int.toNat_natCast, HI'.out, q2]; simp
        have hu0 : Hid (E.unreadOf c (D.next c) = -1) := by show _ = _; unfold Env.unreadOf; rw [HKK.out, Int.toNat_natCast, HI'.out, q2]; simp
        cases q3 : (D.K.of c != -1)
        case true =>
          repeat (first
            | (refine wpList_put hD hV ?hd ?_; (case hd => decide); clear hD hV; (try clear a); intro a hD hV)
            | ((first | refine wpList_plain rfl (fun K hK => ?_) | refine wpList_step (fun K hK => ?_)); go_simp; refine hK _ _ ?_; clear hK K)
            | (refine wp_cond_true ?hc ?_; (case hc => simp [Act.eval, hV, hfs]; done))
            | (refine wp_cond_false ?hc ?_; (case hc => simp [Act.eval, hV, hfs]; done))
            | go_step)
          refine wp_region_quiet_lit (by kernel_rfl) (by kernel_rfl) ?_
          repeat (first
            | (refine wpQuiet_put hD hV ?hd ?_; (case hd => decide); clear hD hV; (try clear a); intro a hD hV)
            | (refine wpQuiet_step (fun K hK => ?_); go_simp; refine hK _ ?_; clear hK K))
          refine wpQuiet_nil ?_
          intro w' hw'
          obtain ⟨nq, hw''⟩ := hw'
          subst hw''
          repeat (first
            | (refine wpList_put hD hV ?hd ?_; (case hd => decide); clear hD hV; (try clear a); intro a hD hV)
            | ((first | refine wpList_plain rfl (fun K hK => ?_) | refine wpList_step (fun K hK => ?_)); go_simp; refine hK _ _ ?_; clear hK K)
            | (refine wp_cond_true ?hc ?_; (case hc => simp [Act.eval, hV, hfs]; done))
            | (refine wp_cond_false ?hc ?_; (case hc => simp [Act.eval, hV, hfs]; done))
            | go_step)
          refine wp_region_quiet_lit (by kernel_rfl) (by kernel_rfl) ?_
          repeat (first
            | (refine wpQuiet_put hD hV ?hd ?_; (case hd => decide); clear hD hV; (try clear a); intro a hD hV)
            | (refine wpQuiet_step (fun K hK => ?_); go_simp; refine hK _ ?_; clear hK K))
          refine wpQuiet_nil ?_
          intro w' hw'
          obtain ⟨nq, hw''⟩ := hw'
          subst hw''
          repeat (first
            | (refine wpList_put hD hV ?hd ?_; (case hd => decide); clear hD hV; (try clear a); intro a hD hV)
            | ((first | refine wpList_plain rfl (fun K hK => ?_) | refine wpList_step (fun K hK => ?_)); go_simp; refine hK _ _ ?_; clear hK K)
            | (refine wp_cond_true ?hc ?_; (case hc => simp [Act.eval, hV, hfs]; done))
            | (refine wp_cond_false ?hc ?_; (case hc => simp [Act.eval, hV, hfs]; done))
            | go_step)
          exact HR.out a _ _ hD hV (by simp [hfs]) (bdrewN HB.out _) (fun h => by have := (h.uo c hcn).trans hu0.out; simp [this] at q3)
        case false =>
          repeat (first
            | (refine wpList_put hD hV ?hd ?_; (case hd => decide); clear hD hV; (try clear a); intro a hD hV)
            | ((first | refine wpList_plain rfl (fun K hK => ?_) | refine wpList_step (fun K hK => ?_)); go_simp; refine hK _ _ ?_; clear hK K)
            | (refine wp_cond_true ?hc ?_; (case hc => simp [Act.eval, hV, hfs]; done))
            | (refine wp_cond_false ?hc ?_; (case hc => simp [Act.eval, hV, hfs]; done))
            | go_step)
          refine wp_region_quiet_lit (by kernel_rfl) (by kernel_rfl) ?_
          repeat (first
            | (refine wpQuiet_put hD hV ?hd ?_; (case hd => decide); clear hD hV; (try clear a); intro a hD hV)
            | (refine wpQuiet_step (fun K hK => ?_); go_simp; refine hK _ ?_; clear hK K))
          refine wpQuiet_nil ?_
          intro w' hw'
          obtain ⟨nq, hw''⟩ := hw'
          subst hw''
          repeat (first
            | (refine wpList_put hD hV ?hd ?_; (case hd => decide); clear hD hV; (try clear a); intro a hD hV)
            | ((first | refine wpList_plain rfl (fun K hK => ?_) | refine wpList_step (fun K hK => ?_)); go_simp; refine hK _ _ ?_; clear hK K)
            | (refine wp_cond_true ?hc ?_; (case hc => simp [Act.eval, hV, hfs]; done))
            | (refine wp_cond_false ?hc ?_; (case hc => simp [Act.eval, hV, hfs]; done))
            | go_step)
          refine wp_region_quiet_lit (by kernel_rfl) (by kernel_rfl) ?_
          repeat (first
            | (refine wpQuiet_put hD hV ?hd ?_; (case hd => decide); clear hD hV; (try clear a); intro a hD hV)
            | (refine wpQuiet_step (fun K hK => ?_); go_simp; refine hK _ ?_; clear hK K))
          refine wpQuiet_nil ?_
          intro w' hw'
          obtain ⟨nq, hw''⟩ := hw'
          subst hw''
          repeat (first
            | (refine wpList_put hD hV ?hd ?_; (case hd => decide); clear hD hV; (try clear a); intro a hD hV)
            | ((first | refine wpList_plain rfl (fun K hK => ?_) | refine wpList_step (fun K hK => ?_)); go_simp; refine hK _ _ ?_; clear hK K)
            | (refine wp_cond_true ?hc ?_; (case hc => simp [Act.eval, hV, hfs]; done))
            | (refine wp_cond_false ?hc ?_; (case hc => simp [Act.eval, hV, hfs]; done))
            | go_step)
          exact fin0.out _ a _ hD hV (by simp [hfs]) ⟨by simp [hfs, h0], by simp [hfs, h3], by simp [hfs, h5], by simp [hfs, h6], by simp [hfs, h7]⟩ (by simp [hfs, h38]) hc0.out (by rw [hu0.out]; simpa using q3)
      case true =>
        cases q4 : E.awaited i
        case false =>
          have hc0 : Hid (E.chosen c (D.next c) = false) := by show _ = _; unfold Env.chosen; rw [HKK.out, Int.toNat_natCast, HI'.out, q4]; simp
          have hu0 : Hid (E.unreadOf c (D.next c) = E.vv i) := by show _ = _; unfold Env.unreadOf; rw [HKK.out, Int.toNat_natCast, HI'.out, q4, q2, if_pos ⟨q1, rfl, rfl⟩]
          cases q3 : (D.K.of c != E.vv i)
          case true =>
            repeat (first
              | (refine wpList_put hD hV ?hd ?_; (case hd => decide); clear hD hV; (try clear a); intro a hD hV)
              | ((first | refine wpList_plain rfl (fun K hK => ?_) | refine wpList_step (fun K hK => ?_)); go_simp; refine hK _ _ ?_; clear hK K)
              | (refine wp_cond_true ?hc ?_; (case hc => simp [Act.eval, hV, hfs]; done))
              | (refine wp_cond_false ?hc ?_; (case hc => simp [Act.eval, hV, hfs]; done))
              | go_step)
            refine wp_region_quiet_lit (by kernel_rfl) (by kernel_rfl) ?_
            repeat (first
              | (refine wpQuiet_put hD hV ?hd ?_; (case hd => decide); clear hD hV; (try clear a); intro a hD hV)
              | (refine wpQuiet_step (fun K hK => ?_); go_simp; refine hK _ ?_; clear hK K))
            refine wpQuiet_nil ?_
            intro w' hw'
            obtain ⟨nq, hw''⟩ := hw'
            subst hw''
            repeat (first
              | (refine wpList_put hD hV ?hd ?_; (case hd => decide); clear hD hV; (try clear a); intro a hD hV)
              | ((first | refine wpList_plain rfl (fun K hK => ?_) | refine wpList_step (fun K hK => ?_)); go_simp; refine hK _ _ ?_; clear hK K)
              | (refine wp_cond_true ?hc ?_; (case hc => simp [Act.eval, hV, hfs]; done))
              | (refine wp_cond_false ?hc ?_; (case hc => simp [Act.eval, hV, hfs]; done))
              | go_step)
            refine wp_region_quiet_lit (by kernel_rfl) (by kernel_rfl) ?_
            repeat (first
              | (refine wpQuiet_put hD hV ?hd ?_; (case hd => decide); clear hD hV; (try clear a); intro a hD hV)
              | (refine wpQuiet_step (fun K hK => ?_); go_simp; refine hK _ ?_; clear hK K))
            refine wpQuiet_nil ?_
            intro w' hw'
            obtain ⟨nq, hw''⟩ := hw'
            subst hw''
            repeat (first
              | (refine wpList_put hD hV ?hd ?_; (case hd => decide); clear hD hV; (try clear a); intro a hD hV)
              | ((first | refine wpList_plain rfl (fun K hK => ?_) | refine wpList_step (fun K hK => ?_)); go_simp; refine hK _ _ ?_; clear hK K)
              | (refine wp_cond_true ?hc ?_; (case hc => simp [Act.eval, hV, hfs]; done))
              | (refine wp_cond_false ?hc ?_; (case hc => simp [Act.eval, hV, hfs]; done))
              | go_step)
            exact HR.out a _ _ hD hV (by simp [hfs]) (bdrewN HB.out _) (fun h => by have := (h.uo c hcn).trans hu0.out; simp [this] at q3)
          case false =>
            repeat (first
              | (refine wpList_put hD hV ?hd ?_; (case hd => decide); clear hD hV; (try clear a); intro a hD hV)
              | ((first | refine wpList_plain rfl (fun K hK => ?_) | refine wpList_step (fun K hK => ?_)); go_simp; refine hK _ _ ?_; clear hK K)
              | (refine wp_cond_true ?hc ?_; (case hc => simp [Act.eval, hV, hfs]; done))
              | (refine wp_cond_false ?hc ?_; (case hc => simp [Act.eval, hV, hfs]; done))
              | go_step)
            refine wp_region_quiet_lit (by kernel_rfl) (by kernel_rfl) ?_
            repeat (first
              | (refine wpQuiet_put hD hV ?hd ?_; (case hd => decide); clear hD hV; (try clear a); intro a hD hV)
              | (refine wpQuiet_step (fun K hK => ?_); go_simp; refine hK _ ?_; clear hK K))
            refine wpQuiet_nil ?_
            intro w' hw'
            obtain ⟨nq, hw''⟩ := hw'
            subst hw''
            repeat (first
              | (refine wpList_put hD hV ?hd ?_; (case hd => decide); clear hD hV; (try clear a); intro a hD hV)
              | ((first | refine wpList_plain rfl (fun K hK => ?_) | refine wpList_step (fun K hK => ?_)); go_simp; refine hK _ _ ?_; clear hK K)
              | (refine wp_cond_true ?hc ?_; (case hc => simp [Act.eval, hV, hfs]; done))
              | (refine wp_cond_false ?hc ?_; (case hc => simp [Act.eval, hV, hfs]; done))
              | go_step)
            refine wp_region_quiet_lit (by kernel_rfl) (by kernel_rfl) ?_
            repeat (first
              | (refine wpQuiet_put hD hV ?hd ?_; (case hd => decide); clear hD hV; (try clear a); intro a hD hV)
              | (refine wpQuiet_step (fun K hK => ?_); go_simp; refine hK _ ?_; clear hK K))
            refine wpQuiet_nil ?_
            intro w' hw'
            obtain ⟨nq, hw''⟩ := hw'
            subst hw''
            repeat (first
              | (refine wpList_put hD hV ?hd ?_; (case hd => decide); clear hD hV; (try clear a); intro a hD hV)
              | ((first | refine wpList_plain rfl (fun K hK => ?_) | refine wpList_step (fun K hK => ?_)); go_simp; refine hK _ _ ?_; clear hK K)
              | (refine wp_cond_true ?hc ?_; (case hc => simp [Act.eval, hV, hfs]; done))
              | (refine wp_cond_false ?hc ?_; (case hc => simp [Act.eval, hV, hfs]; done))
              | go_step)
            exact fin0.out _ a _ hD hV (by simp [hfs]) ⟨by simp [hfs, h0], by simp [hfs, h3], by simp [hfs, h5], by simp [hfs, h6], by simp [hfs, h7]⟩ (by simp [hfs, h38]) hc0.out (by rw [hu0.out]; simpa using q3)
        case true =>
          have hc0 : Hid (E.chosen c (D.next c) = true) := by show _ = _; unfold Env.chosen; rw [HKK.out, Int.toNat_natCast, HI'.out, q4, q2]; simp; omega
          have hu0 : Hid (E.unreadOf c (D.next c) = -1) := by show _ = _; unfold Env.unreadOf; rw [HKK.out, Int.toNat_natCast, HI'.out, q4]; simp
          have c9 := HO.out.arr.cell hcn
          have f9 := HO.out.arr.frozen c
          have hg9 := HO.out.ge
          have x1 : ∀ q x, ((w'.drewN q).setCell ⟨g9, c, none⟩ x).cell? ⟨S, 15, none⟩ = some (.slice (T.A 15) E.nc (T.cap 15)) := fun q x => by rw [cell_far _ _ _ _ (by show g9 ≠ S; omega)]; exact s15
          have x2 : ∀ q x, ((w'.drewN q).setCell ⟨g9, c, none⟩ x).cell? ⟨T.b 15, T.o 15 + c, none⟩ = some (.int .i32 (D.K.of c)) := fun q x => by rw [cell_far _ _ _ _ (by show g9 ≠ T.b 15; have := HRw.out.b15 (by omega); omega)]; exact d15
          cases q3 : (D.K.of c != -1)
          case true =>
            repeat (first
              | (refine wpList_put hD hV ?hd ?_; (case hd => decide); clear hD hV; (try clear a); intro a hD hV)
              | ((first | refine wpList_plain rfl (fun K hK => ?_) | refine wpList_step (fun K hK => ?_)); go_simp; refine hK _ _ ?_; clear hK K)
              | (refine wp_cond_true ?hc ?_; (case hc => simp [Act.eval, hV, hfs]; done))
              | (refine wp_cond_false ?hc ?_; (case hc => simp [Act.eval, hV, hfs]; done))
              | go_step)
            refine wp_region_quiet_lit (by kernel_rfl) (by kernel_rfl) ?_
            repeat (first
              | (refine wpQuiet_put hD hV ?hd ?_; (case hd => decide); clear hD hV; (try clear a); intro a hD hV)
              | (refine wpQuiet_step (fun K hK => ?_); go_simp; refine hK _ ?_; clear hK K))
            refine wpQuiet_nil ?_
            intro w' hw'
            obtain ⟨nq, hw''⟩ := hw'
            subst hw''
            repeat (first
              | (refine wpList_put hD hV ?hd ?_; (case hd => decide); clear hD hV; (try clear a); intro a hD hV)
              | ((first | refine wpList_plain rfl (fun K hK => ?_) | refine wpList_step (fun K hK => ?_)); go_simp; refine hK _ _ ?_; clear hK K)
              | (refine wp_cond_true ?hc ?_; (case hc => simp [Act.eval, hV, hfs]; done))
              | (refine wp_cond_false ?hc ?_; (case hc => simp [Act.eval, hV, hfs]; done))
              | go_step)
            refine wp_region_quiet_lit (by kernel_rfl) (by kernel_rfl) ?_
            repeat (first
              | (refine wpQuiet_put hD hV ?hd ?_; (case hd => decide); clear hD hV; (try clear a); intro a hD hV)
              | (refine wpQuiet_step (fun K hK => ?_); go_simp; refine hK _ ?_; clear hK K))
            refine wpQuiet_nil ?_
            intro w' hw'
            obtain ⟨nq, hw''⟩ := hw'
            subst hw''
            repeat (first
              | (refine wpList_put hD hV ?hd ?_; (case hd => decide); clear hD hV; (try clear a); intro a hD hV)
              | ((first | refine wpList_plain rfl (fun K hK => ?_) | refine wpList_step (fun K hK => ?_)); go_simp; refine hK _ _ ?_; clear hK K)
              | (refine wp_cond_true ?hc ?_; (case hc => simp [Act.eval, hV, hfs]; done))
              | (refine wp_cond_false ?hc ?_; (case hc => simp [Act.eval, hV, hfs]; done))
              | go_step)
            exact HR.out a _ _ hD hV (by simp [hfs]) ((bdrewN HB.out _).setCell HO.out.ge _) (fun h => by have := (h.uo c hcn).trans hu0.out; simp [this] at q3)
          case false =>
            repeat (first
              | (refine wpList_put hD hV ?hd ?_; (case hd => decide); clear hD hV; (try clear a); intro a hD hV)
              | ((first | refine wpList_plain rfl (fun K hK => ?_) | refine wpList_step (fun K hK => ?_)); go_simp; refine hK _ _ ?_; clear hK K)
              | (refine wp_cond_true ?hc ?_; (case hc => simp [Act.eval, hV, hfs]; done))
              | (refine wp_cond_false ?hc ?_; (case hc => simp [Act.eval, hV, hfs]; done))
              | go_step)
            refine wp_region_quiet_lit (by kernel_rfl) (by kernel_rfl) ?_
            repeat (first
              | (refine wpQuiet_put hD hV ?hd ?_; (case hd => decide); clear hD hV; (try clear a); intro a hD hV)
              | (refine wpQuiet_step (fun K hK => ?_); go_simp; refine hK _ ?_; clear hK K))
            refine wpQuiet_nil ?_
            intro w' hw'
            obtain ⟨nq, hw''⟩ := hw'
            subst hw''
            repeat (first
              | (refine wpList_put hD hV ?hd ?_; (case hd => decide); clear hD hV; (try clear a); intro a hD hV)
              | ((first | refine wpList_plain rfl (fun K hK => ?_) | refine wpList_step (fun K hK => ?_)); go_simp; refine hK _ _ ?_; clear hK K)
              | (refine wp_cond_true ?hc ?_; (case hc => simp [Act.eval, hV, hfs]; done))
              | (refine wp_cond_false ?hc ?_; (case hc => simp [Act.eval, hV, hfs]; done))
              | go_step)
            refine wp_region_quiet_lit (by kernel_rfl) (by kernel_rfl) ?_
            repeat (first
              | (refine wpQuiet_put hD hV ?hd ?_; (case hd => decide); clear hD hV; (try clear a); intro a hD hV)
              | (refine wpQuiet_step (fun K hK => ?_); go_simp; refine hK _ ?_; clear hK K))
            refine wpQuiet_nil ?_
            intro w' hw'
            obtain ⟨nq, hw''⟩ := hw'
            subst hw''
            repeat (first
              | (refine wpList_put hD hV ?hd ?_; (case hd => decide); clear hD hV; (try clear a); intro a hD hV)
              | ((first | refine wpList_plain rfl (fun K hK => ?_) | refine wpList_step (fun K hK => ?_)); go_simp; refine hK _ _ ?_; clear hK K)
              | (refine wp_cond_true ?hc ?_; (case hc => simp [Act.eval, hV, hfs]; done))
              | (refine wp_cond_false ?hc ?_; (case hc => simp [Act.eval, hV, hfs]; done))
              | go_step)
            refine HK.out a _ _ (E.nc - (c + 1)) hD hV (by omega) ⟨c + 1, by omega, rfl, by simp [hfs], ⟨by simp [hfs, h0], by simp [hfs, h3], by simp [hfs, h5], by simp [hfs, h6], by simp [hfs, h7]⟩, by simp [hfs, h38], (bdrewN HB.out _).setCell HO.out.ge _, by simpa using hB', ((HO.out.drewN _).set hcn _).congr (fun j hj => ?_), fun c' hc' => ?_⟩
            · unfold fset
              by_cases e : j = c
              · subst e; simp [hc0.out]
              · have : decide (j < c) = decide (j < c + 1) := by simp; omega
                rw [if_neg e]
                dsimp only
                rw [this]
            · by_cases e : c' = c
              · subst e; rw [hu0.out]; simpa using q3
              · exact HI.out c' (by omega)
    · have hc0 : Hid (E.chosen c (D.next c) = false) := by show _ = _; unfold Env.chosen; rw [HKK.out]; simp; omega
      have hu0 : Hid (E.unreadOf c (D.next c) = -1) := by show _ = _; unfold Env.unreadOf; rw [HKK.out, if_neg (fun h => q1 h.1)]
      cases q3 : (D.K.of c != -1)
      case true =>
        repeat (first
          | (refine wpList_put hD hV ?hd ?_; (case hd => decide); clear hD hV; (try clear a); intro a hD hV)
          | ((first | refine wpList_plain rfl (fun K hK => ?_) | refine wpList_step (fun K hK => ?_)); go_simp; refine hK _ _ ?_; clear hK K)
          | (refine wp_cond_true ?hc ?_; (case hc => simp [Act.eval, hV, hfs]; done))
          | (refine wp_cond_false ?hc ?_; (case hc => simp [Act.eval, hV, hfs]; done))
          | go_step)
        refine wp_region_quiet_lit (by kernel_rfl) (by kernel_rfl) ?_
        repeat (first
          | (refine wpQuiet_put hD hV ?hd ?_; (case hd => decide); clear hD hV; (try clear a); intro a hD hV)
          | (refine wpQuiet_step (fun K hK => ?_); go_simp; refine hK _ ?_; clear hK K))
        refine wpQuiet_nil ?_
        intro w' hw'
        obtain ⟨nq, hw''⟩ := hw'
        subst hw''
        repeat (first
          | (refine wpList_put hD hV ?hd ?_; (case hd => decide); clear hD hV; (try clear a); intro a hD hV)
          | ((first | refine wpList_plain rfl (fun K hK => ?_) | refine wpList_step (fun K hK => ?_)); go_simp; refine hK _ _ ?_; clear hK K)
          | (refine wp_cond_true ?hc ?_; (case hc => simp [Act.eval, hV, hfs]; done))
          | (refine wp_cond_false ?hc ?_; (case hc => simp [Act.eval, hV, hfs]; done))
          | go_step)
        exact HR.out a _ _ hD hV (by simp [hfs]) (bdrewN HB.out _) (fun h => by have := (h.uo c hcn).trans hu0.out; simp [this] at q3)
      case false =>
        repeat (first
          | (refine wpList_put hD hV ?hd ?_; (case hd => decide); clear hD hV; (try clear a); intro a hD hV)
          | ((first | refine wpList_plain rfl (fun K hK => ?_) | refine wpList_step (fun K hK => ?_)); go_simp; refine hK _ _ ?_; clear hK K)
          | (refine wp_cond_true ?hc ?_; (case hc => simp [Act.eval, hV, hfs]; done))
          | (refine wp_cond_false ?hc ?_; (case hc => simp [Act.eval, hV, hfs]; done))
          | go_step)
        refine wp_region_quiet_lit (by kernel_rfl) (by kernel_rfl) ?_
        repeat (first
          | (refine wpQuiet_put hD hV ?hd ?_; (case hd => decide); clear hD hV; (try clear a); intro a hD hV)
          | (refine wpQuiet_step (fun K hK => ?_); go_simp; refine hK _ ?_; clear hK K))
        refine wpQuiet_nil ?_
        intro w' hw'
        obtain ⟨nq, hw''⟩ := hw'
        subst hw''
        repeat (first
          | (refine wpList_put hD hV ?hd ?_; (case hd => decide); clear hD hV; (try clear a); intro a hD hV)
          | ((first | refine wpList_plain rfl (fun K hK => ?_) | refine wpList_step (fun K hK => ?_)); go_simp; refine hK _ _ ?_; clear hK K)
          | (refine wp_cond_true ?hc ?_; (case hc => simp [Act.eval, hV, hfs]; done))
          | (refine wp_cond_false ?hc ?_; (case hc => simp [Act.eval, hV, hfs]; done))
          | go_step)
        exact fin0.out _ a _ hD hV (by simp [hfs]) ⟨by simp [hfs, h0], by simp [hfs, h3], by simp [hfs, h5], by simp [hfs, h6], by simp [hfs, h7]⟩ (by simp [hfs, h38]) hc0.out (by rw [hu0.out]; simpa using q3)
  · repeat (first
      | (refine wpList_put hD hV ?hd ?_; (case hd => decide); clear hD hV; (try clear a); intro a hD hV)
      | ((first | refine wpList_plain rfl (fun K hK => ?_) | refine wpList_step (fun K hK => ?_)); go_simp; refine hK _ _ ?_; clear hK K)
      | (refine wp_cond_true ?hc ?_; (case hc => simp [Act.eval, hV, hfs]; done))
      | (refine wp_cond_false ?hc ?_; (case hc => simp [Act.eval, hV, hfs]; done))
      | go_step)
    have hcc : c = E.nc := by omega
    subst hcc
    exact HN.out a _ _ hD hV ⟨by simp [hfs, h0], by simp [hfs, h3], by simp [hfs, h5], by simp [hfs, h6], by simp [hfs, h7]⟩ (by simp [hfs, h38]) HB.out hB' (HO.out.congr (fun j hj => by simp [hj])) HI.out

theorem st28 {a : Act} {w : World} {f : Nat → Value} {g9 : Nat} {v9 : Nat → Value} (hR : Rd W B T E D) (hS : Sb W S T E D) (hSB : S < B) (hW : Below B W w) (hB : B ≤ w.heap.size) (hb : Bs T E S f) (h38 : f 38 = .slice (some ⟨g9, 0, none⟩) E.nc E.nc) (ho : Own B w g9 E.nc 4 v9) (hD : a.defers = []) (hV : ∀ j, j < 864 → a.tmps[j]? = some (f j))
    (hNext : ∀ (a : Act) (f : Nat → Value) (w' : World) (g10 : Nat), a.defers = [] → (∀ j, j < 864 → a.tmps[j]? = some (f j)) → Bs T E S f → f 38 = .slice (some ⟨g9, 0, none⟩) E.nc E.nc → f 42 = .slice (some ⟨g10, 0, none⟩) E.nc E.nc → g9 < g10 → Below B W w' → B ≤ w'.heap.size → Own B w' g9 E.nc 4 v9 → Own B w' g10 E.nc 4 (fun _ => .bool false) → Q .normal a w') :
    Code.wp Try.prog (sub [1, 1, 1, 1, 1, 1, 1, 1, 1, 1, 1, 1, 1, 1, 1, 1, 1, 1, 1, 1, 1, 1, 1, 1, 1, 1, 1, 1, 0] (Try.f7.body.getD .skip)) Q a w := by
  have hfs := fset_at
  obtain ⟨h0, h3, h5, h6, h7⟩ := hb
  have HN := hide hNext
  have HW := hide hW
  have HO := hide ho
  have hmk := mk25 E.nc (by have := hR.m_c; omega)
  clear hNext hW hR hS ho
  conv => arg 2; whnf
  repeat (first
    | (refine wpList_put hD hV ?hd ?_; (case hd => decide); clear hD hV; (try clear a); intro a hD hV)
    | ((first | refine wpList_plain rfl (fun K hK => ?_) | refine wpList_step (fun K hK => ?_)); go_simp; refine hK _ _ ?_; clear hK K)
    | (refine wp_cond_true ?hc ?_; (case hc => simp [Act.eval, hV, hfs]; done))
    | (refine wp_cond_false ?hc ?_; (case hc => simp [Act.eval, hV, hfs]; done))
    | go_step)
  exact HN.out a _ _ w.heap.size hD hV ⟨by simp [hfs, h0], by simp [hfs, h3], by simp [hfs, h5], by simp [hfs, h6], by simp [hfs, h7]⟩ (by simp [hfs, h38]) (by simp [hfs]) HO.out.arr.lt (HW.out.alloc hB _) (by simp; omega) (HO.out.alloc _) (Own.new _ _ _ _ hB)
end
end Go.Proofs.Qxb6616080a
