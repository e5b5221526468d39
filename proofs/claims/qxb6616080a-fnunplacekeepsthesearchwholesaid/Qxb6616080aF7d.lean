import Derived.Test.Qxb6616080aF7c
namespace Go.Proofs.Qxb6616080a
open Go.RowKit
set_option linter.unusedVariables false
set_option linter.unusedSimpArgs false
set_option maxRecDepth 100000

section
variable {Q : Exit → Act → World → Prop} {W : World} {T : Ad} {E : Env} {D : Dyn} {B S : Nat} {mix : Nat → Nat}

theorem st11 {a : Act} {w : World} {f : Nat → Value} {g1 g2 : Nat} (hR : Rd W B T E D) (hS : Sb W S T E D) (hSB : S < B) (hW : Below B W w) (hB : B ≤ w.heap.size) (hb : Bs T E S f) (h9 : f 9 = .slice (some ⟨g1, 0, none⟩) E.n E.n) (h10 : f 10 = .slice (some ⟨g2, 0, none⟩) E.n E.n)
    (h12 : f 12 = .int .i64 (tot E.nc (fun c => (E.cl c : Int) - D.next c))) (hD : a.defers = []) (hV : ∀ j, j < 864 → a.tmps[j]? = some (f j))
    (hNext : ∀ (a : Act) (f : Nat → Value), a.defers = [] → (∀ j, j < 864 → a.tmps[j]? = some (f j)) → Bs T E S f → f 9 = .slice (some ⟨g1, 0, none⟩) E.n E.n → f 10 = .slice (some ⟨g2, 0, none⟩) E.n E.n → D.toPlace = tot E.nc (fun c => (E.cl c : Int) - D.next c) → Q .normal a w)
    (hRet : ∀ (a : Act) (f : Nat → Value) (w : World), a.defers = [] → (∀ j, j < 864 → a.tmps[j]? = some (f j)) → f 4 = .bool false → Below B W w → ¬ Holds E D mix → Q .ret a w) : Code.wp Try.prog (sub [1, 1, 1, 1, 1, 1, 1, 1, 1, 1, 1, 0] (Try.f7.body.getD .skip)) Q a w := by
  have hfs := fset_at
  obtain ⟨h0, h3, h5, h6, h7⟩ := hb
  have HN := hide hNext
  have HR := hide hRet
  have HW := hide hW
  have s3 : w.cell? ⟨S, 3, none⟩ = some (.int .i64 D.toPlace) := hS.below hW hSB 3 (by decide)
  obtain ⟨tt, htt⟩ : ∃ tt, tot E.nc (fun c => (E.cl c : Int) - D.next c) = tt := ⟨_, rfl⟩
  rw [htt] at h12
  have HTT := hide htt
  clear htt
  have HRd := hide hR
  have HS := hide hS
  clear hNext hRet hR hS hW
  conv => arg 2; whnf
  by_cases g : D.toPlace = tt
  · repeat (first
      | (refine wpList_put hD hV ?hd ?_; (case hd => decide); clear hD hV; (try clear a); intro a hD hV)
      | ((first | refine wpList_plain rfl (fun K hK => ?_) | refine wpList_step (fun K hK => ?_)); go_simp; refine hK _ _ ?_; clear hK K)
      | (refine wp_cond_true ?hc ?_; (case hc => simp [Act.eval, hV, hfs]; done))
      | (refine wp_cond_false ?hc ?_; (case hc => simp [Act.eval, hV, hfs]; done))
      | go_step)
    exact HN.out a _ hD hV ⟨by simp [hfs, h0], by simp [hfs, h3], by simp [hfs, h5], by simp [hfs, h6], by simp [hfs, h7]⟩ (by simp [hfs, h9]) (by simp [hfs, h10]) (g.trans HTT.out.symm)
  · have gb : (D.toPlace != tt) = true := by simpa using g
    repeat (first
      | (refine wpList_put hD hV ?hd ?_; (case hd => decide); clear hD hV; (try clear a); intro a hD hV)
      | ((first | refine wpList_plain rfl (fun K hK => ?_) | refine wpList_step (fun K hK => ?_)); go_simp; refine hK _ _ ?_; clear hK K)
      | (refine wp_cond_true ?hc ?_; (case hc => simp [Act.eval, hV, hfs]; done))
      | (refine wp_cond_false ?hc ?_; (case hc => simp [Act.eval, hV, hfs]; done))
      | go_step)
    exact HR.out a _ _ hD hV (by simp [hfs]) HW.out (fun h => g (h.tp.trans HTT.out))

set_option maxHeartbeats 1000000 in
/-- 'Placed'. -/
theorem st12 {a : Act} {w : World} {f : Nat → Value} {g1 g2 : Nat} {cof plc : Nat → Int} (hR : Rd W B T E D) (hS : Sb W S T E D) (hSB : S < B) (hW : Below B W w) (hB : B ≤ w.heap.size) (hb : Bs T E S f) (h9 : f 9 = .slice (some ⟨g1, 0, none⟩) E.n E.n) (h10 : f 10 = .slice (some ⟨g2, 0, none⟩) E.n E.n)
    (ho : Own B w g1 E.n 3 (fun j => .int .i64 (cof j))) (hp : Own B w g2 E.n 3 (fun j => .int .i64 (plc j))) (hcp : Cp E D cof plc) (hD : a.defers = []) (hV : ∀ j, j < 864 → a.tmps[j]? = some (f j))
    (hNext : ∀ (a : Act) (f : Nat → Value) (w' : World), a.defers = [] → (∀ j, j < 864 → a.tmps[j]? = some (f j)) → Bs T E S f → f 9 = .slice (some ⟨g1, 0, none⟩) E.n E.n → Below B W w' → B ≤ w'.heap.size → Own B w' g1 E.n 3 (fun j => .int .i64 (cof j)) →
      (∀ i, i < E.n → (D.placed i = true ↔ ∃ c k : Nat, c < E.nc ∧ k < E.cl c ∧ E.ch c k = (i : Int) ∧ (k : Int) < D.next c)) → Q .normal a w')
    (hRet : ∀ (a : Act) (f : Nat → Value) (w : World), a.defers = [] → (∀ j, j < 864 → a.tmps[j]? = some (f j)) → f 4 = .bool false → Below B W w → ¬ Holds E D mix → Q .ret a w) : Code.wp Try.prog (sub [1, 1, 1, 1, 1, 1, 1, 1, 1, 1, 1, 1, 0] (Try.f7.body.getD .skip)) Q a w := by
  have hfs := fset_at
  obtain ⟨h0, h3, h5, h6, h7⟩ := hb
  have HN := hide hNext
  have HR := hide hRet
  have HO := hide ho
  have HP := hide hp
  have HRd := hide hR
  have HS := hide hS
  have HW := hide hW
  have HC := hide hcp
  have m1 := hR.m_n
  clear hNext hRet ho hp hR hS hW hcp
  conv => arg 2; whnf
  repeat (first
    | (refine wpList_put hD hV ?hd ?_; (case hd => decide); clear hD hV; (try clear a); intro a hD hV)
    | ((first | refine wpList_plain rfl (fun K hK => ?_) | refine wpList_step (fun K hK => ?_)); go_simp; refine hK _ _ ?_; clear hK K)
    | (refine wp_cond_true ?hc ?_; (case hc => simp [Act.eval, hV, hfs]; done))
    | (refine wp_cond_false ?hc ?_; (case hc => simp [Act.eval, hV, hfs]; done))
    | go_step)
  refine wp_loop_f (N := 864) (fun m f w' => ∃ (k q : Nat), k ≤ E.n ∧ m = E.n - k ∧ w' = w.drewN q ∧ f 17 = .int .i64 (k : Nat) ∧ Bs T E S f ∧ f 9 = .slice (some ⟨g1, 0, none⟩) E.n E.n ∧ f 10 = .slice (some ⟨g2, 0, none⟩) E.n E.n ∧
    (∀ i, i < k → (D.placed i = true ↔ ∃ c k : Nat, c < E.nc ∧ k < E.cl c ∧ E.ch c k = (i : Int) ∧ (k : Int) < D.next c))) E.n hD hV
    ⟨0, 0, by omega, by omega, rfl, by simp [hfs], ⟨by simp [hfs, h0], by simp [hfs, h3], by simp [hfs, h5], by simp [hfs, h6], by simp [hfs, h7]⟩, by simp [hfs, h9], by simp [hfs, h10], fun _ h => by omega⟩ ?_
  clear h0 h3 h5 h6 h7 h9 h10 hD hV a f
  intro m f w' a hD hV ⟨k, q, hk, hm', hw, h17, hb, h9, h10, hI⟩ K hK
  subst hw
  obtain ⟨h0, h3, h5, h6, h7⟩ := hb
  have HK := hide hK
  have HI := hide hI
  clear hK hI
  by_cases hkn : k < E.n
  · have hRw := HRd.out.below HW.out
    have hSw := HS.out.below HW.out hSB
    have s4 : w.cell? ⟨S, 4, none⟩ = some (.slice (T.A 4) E.n (T.cap 4)) := hSw 4 (by decide)
    have s2 : w.cell? ⟨S, 2, none⟩ = some (.slice (T.A 2) E.nc (T.cap 2)) := hSw 2 (by decide)
    have n4 := hRw.n4 (by omega)
    have d4 := hRw.d4 k hkn
    have c1 := HO.out.arr.cell hkn
    have c2 := HP.out.arr.cell hkn
    have e4 : IntKind.i64.wrap ((k : Int) + 1) = (k : Int) + 1 := wrap64 (by unfold i64; omega)
    by_cases q1 : 0 ≤ cof k
    · obtain ⟨c, p, a1, a2, _, a4, a5, a6⟩ := HC.out.all.of_ k hkn q1
      rw [a5] at c1
      rw [a6] at c2
      have n2 := hRw.n2 (by omega)
      have d2 := hRw.d2 c a1
      have q2 : (0 : Int) ≤ (c : Int) := by omega
      have A4 := hide a4
      have sem : Hid ((∃ c k' : Nat, c < E.nc ∧ k' < E.cl c ∧ E.ch c k' = (k : Int) ∧ (k' : Int) < D.next c) ↔ (p : Int) < D.next c) := by
        show (∃ c k' : Nat, c < E.nc ∧ k' < E.cl c ∧ E.ch c k' = (k : Int) ∧ (k' : Int) < D.next c) ↔ (p : Int) < D.next c
        refine ⟨?_, fun h => ⟨c, p, a1, a2, a4, h⟩⟩
        rintro ⟨c', p', b1, b2, b3, b4⟩
        have h1 := HC.out.chr a1 a2
        have h2 := HC.out.chr b1 b2
        rw [a4] at h1
        rw [b3] at h2
        obtain ⟨_, h1a, h1b⟩ := h1
        obtain ⟨_, h2a, h2b⟩ := h2
        have : c = c' := by omega
        subst this
        omega
      clear hRw hSw a4 a5 a6 q1
      by_cases q3 : (p : Int) < D.next c <;> cases q4 : D.placed k
      · repeat (first
          | (refine wpList_put hD hV ?hd ?_; (case hd => decide); clear hD hV; (try clear a); intro a hD hV)
          | ((first | refine wpList_plain rfl (fun K hK => ?_) | refine wpList_step (fun K hK => ?_)); go_simp; refine hK _ _ ?_; clear hK K)
          | (refine wp_cond_true ?hc ?_; (case hc => simp [Act.eval, hV, hfs]; done))
          | (refine wp_cond_false ?hc ?_; (case hc => simp [Act.eval, hV, hfs]; done))
          | go_step)
        refine wp_region_quiet_lit (by kernel_rfl) (by kernel_rfl) ?_
        repeat (first
          | (refine wpQuiet_put hD hV ?hd ?_; (case hd => decide); clear hD hV; (try clear a); intro a hD hV)
          | (refine wpQuiet_step (fun K hK => ?_); go_simp; refine hK _ ?_; clear hK K))
        refine wpQuiet_nil ?_
        intro w' hw'
        obtain ⟨nq, hw''⟩ := hw'
        subst hw''
        repeat (first
          | (refine wpList_put hD hV ?hd ?_; (case hd => decide); clear hD hV; (try clear a); intro a hD hV)
          | ((first | refine wpList_plain rfl (fun K hK => ?_) | refine wpList_step (fun K hK => ?_)); go_simp; refine hK _ _ ?_; clear hK K)
          | (refine wp_cond_true ?hc ?_; (case hc => simp [Act.eval, hV, hfs]; done))
          | (refine wp_cond_false ?hc ?_; (case hc => simp [Act.eval, hV, hfs]; done))
          | go_step)
        exact HR.out a _ _ hD hV (by simp [hfs]) (bdrewN HW.out _) (fun h => by have := (h.pl k hkn).2 (sem.out.2 q3); rw [q4] at this; cases this)
      · repeat (first
          | (refine wpList_put hD hV ?hd ?_; (case hd => decide); clear hD hV; (try clear a); intro a hD hV)
          | ((first | refine wpList_plain rfl (fun K hK => ?_) | refine wpList_step (fun K hK => ?_)); go_simp; refine hK _ _ ?_; clear hK K)
          | (refine wp_cond_true ?hc ?_; (case hc => simp [Act.eval, hV, hfs]; done))
          | (refine wp_cond_false ?hc ?_; (case hc => simp [Act.eval, hV, hfs]; done))
          | go_step)
        refine wp_region_quiet_lit (by kernel_rfl) (by kernel_rfl) ?_
        repeat (first
          | (refine wpQuiet_put hD hV ?hd ?_; (case hd => decide); clear hD hV; (try clear a); intro a hD hV)
          | (refine wpQuiet_step (fun K hK => ?_); go_simp; refine hK _ ?_; clear hK K))
        refine wpQuiet_nil ?_
        intro w' hw'
        obtain ⟨nq, hw''⟩ := hw'
        subst hw''
        repeat (first
          | (refine wpList_put hD hV ?hd ?_; (case hd => decide); clear hD hV; (try clear a); intro a hD hV)
          | ((first | refine wpList_plain rfl (fun K hK => ?_) | refine wpList_step (fun K hK => ?_)); go_simp; refine hK _ _ ?_; clear hK K)
          | (refine wp_cond_true ?hc ?_; (case hc => simp [Act.eval, hV, hfs]; done))
          | (refine wp_cond_false ?hc ?_; (case hc => simp [Act.eval, hV, hfs]; done))
          | go_step)
        refine HK.out a _ _ (E.n - (k + 1)) hD hV (by omega) ⟨k + 1, _, by omega, rfl, rfl, by simp [hfs], ⟨by simp [hfs, h0], by simp [hfs, h3], by simp [hfs, h5], by simp [hfs, h6], by simp [hfs, h7]⟩, by simp [hfs, h9], by simp [hfs, h10], fun i hi => ?_⟩
        by_cases e : i = k
        · subst e; rw [q4]; exact ⟨fun _ => sem.out.2 q3, fun _ => rfl⟩
        · exact HI.out i (by omega)
      · repeat (first
          | (refine wpList_put hD hV ?hd ?_; (case hd => decide); clear hD hV; (try clear a); intro a hD hV)
          | ((first | refine wpList_plain rfl (fun K hK => ?_) | refine wpList_step (fun K hK => ?_)); go_simp; refine hK _ _ ?_; clear hK K)
          | (refine wp_cond_true ?hc ?_; (case hc => simp [Act.eval, hV, hfs]; done))
          | (refine wp_cond_false ?hc ?_; (case hc => simp [Act.eval, hV, hfs]; done))
          | go_step)
        refine wp_region_quiet_lit (by kernel_rfl) (by kernel_rfl) ?_
        repeat (first
          | (refine wpQuiet_put hD hV ?hd ?_; (case hd => decide); clear hD hV; (try clear a); intro a hD hV)
          | (refine wpQuiet_step (fun K hK => ?_); go_simp; refine hK _ ?_; clear hK K))
        refine wpQuiet_nil ?_
        intro w' hw'
        obtain ⟨nq, hw''⟩ := hw'
        subst hw''
        repeat (first
          | (refine wpList_put hD hV ?hd ?_; (case hd => decide); clear hD hV; (try clear a); intro a hD hV)
          | ((first | refine wpList_plain rfl (fun K hK => ?_) | refine wpList_step (fun K hK => ?_)); go_simp; refine hK _ _ ?_; clear hK K)
          | (refine wp_cond_true ?hc ?_; (case hc => simp [Act.eval, hV, hfs]; done))
          | (refine wp_cond_false ?hc ?_; (case hc => simp [Act.eval, hV, hfs]; done))
          | go_step)
        refine HK.out a _ _ (E.n - (k + 1)) hD hV (by omega) ⟨k + 1, _, by omega, rfl, rfl, by simp [hfs], ⟨by simp [hfs, h0], by simp [hfs, h3], by simp [hfs, h5], by simp [hfs, h6], by simp [hfs, h7]⟩, by simp [hfs, h9], by simp [hfs, h10], fun i hi => ?_⟩
        by_cases e : i = k
        · subst e; rw [q4]; exact ⟨(fun h => by cases h), fun h => absurd (sem.out.1 h) q3⟩
        · exact HI.out i (by omega)
      · repeat (first
          | (refine wpList_put hD hV ?hd ?_; (case hd => decide); clear hD hV; (try clear a); intro a hD hV)
          | ((first | refine wpList_plain rfl (fun K hK => ?_) | refine wpList_step (fun K hK => ?_)); go_simp; refine hK _ _ ?_; clear hK K)
          | (refine wp_cond_true ?hc ?_; (case hc => simp [Act.eval, hV, hfs]; done))
          | (refine wp_cond_false ?hc ?_; (case hc => simp [Act.eval, hV, hfs]; done))
          | go_step)
        refine wp_region_quiet_lit (by kernel_rfl) (by kernel_rfl) ?_
        repeat (first
          | (refine wpQuiet_put hD hV ?hd ?_; (case hd => decide); clear hD hV; (try clear a); intro a hD hV)
          | (refine wpQuiet_step (fun K hK => ?_); go_simp; refine hK _ ?_; clear hK K))
        refine wpQuiet_nil ?_
        intro w' hw'
        obtain ⟨nq, hw''⟩ := hw'
        subst hw''
        repeat (first
          | (refine wpList_put hD hV ?hd ?_; (case hd => decide); clear hD hV; (try clear a); intro a hD hV)
          | ((first | refine wpList_plain rfl (fun K hK => ?_) | refine wpList_step (fun K hK => ?_)); go_simp; refine hK _ _ ?_; clear hK K)
          | (refine wp_cond_true ?hc ?_; (case hc => simp [Act.eval, hV, hfs]; done))
          | (refine wp_cond_false ?hc ?_; (case hc => simp [Act.eval, hV, hfs]; done))
          | go_step)
        exact HR.out a _ _ hD hV (by simp [hfs]) (bdrewN HW.out _) (fun h => q3 (sem.out.1 ((h.pl k hkn).1 q4)))
    · have sem : Hid (¬ ∃ c k' : Nat, c < E.nc ∧ k' < E.cl c ∧ E.ch c k' = (k : Int) ∧ (k' : Int) < D.next c) := by
        show ¬ _
        rintro ⟨c', p', b1, b2, b3, b4⟩
        have h2 := HC.out.chr b1 b2
        rw [b3] at h2
        obtain ⟨_, h2a, h2b⟩ := h2
        simp only [Int.toNat_natCast] at h2a
        omega
      clear hRw hSw
      cases q4 : D.placed k
      · repeat (first
          | (refine wpList_put hD hV ?hd ?_; (case hd => decide); clear hD hV; (try clear a); intro a hD hV)
          | ((first | refine wpList_plain rfl (fun K hK => ?_) | refine wpList_step (fun K hK => ?_)); go_simp; refine hK _ _ ?_; clear hK K)
          | (refine wp_cond_true ?hc ?_; (case hc => simp [Act.eval, hV, hfs]; done))
          | (refine wp_cond_false ?hc ?_; (case hc => simp [Act.eval, hV, hfs]; done))
          | go_step)
        refine wp_region_quiet_lit (by kernel_rfl) (by kernel_rfl) ?_
        repeat (first
          | (refine wpQuiet_put hD hV ?hd ?_; (case hd => decide); clear hD hV; (try clear a); intro a hD hV)
          | (refine wpQuiet_step (fun K hK => ?_); go_simp; refine hK _ ?_; clear hK K))
        refine wpQuiet_nil ?_
        intro w' hw'
        obtain ⟨nq, hw''⟩ := hw'
        subst hw''
        repeat (first
          | (refine wpList_put hD hV ?hd ?_; (case hd => decide); clear hD hV; (try clear a); intro a hD hV)
          | ((first | refine wpList_plain rfl (fun K hK => ?_) | refine wpList_step (fun K hK => ?_)); go_simp; refine hK _ _ ?_; clear hK K)
          | (refine wp_cond_true ?hc ?_; (case hc => simp [Act.eval, hV, hfs]; done))
          | (refine wp_cond_false ?hc ?_; (case hc => simp [Act.eval, hV, hfs]; done))
          | go_step)
        refine HK.out a _ _ (E.n - (k + 1)) hD hV (by omega) ⟨k + 1, _, by omega, rfl, rfl, by simp [hfs], ⟨by simp [hfs, h0], by simp [hfs, h3], by simp [hfs, h5], by simp [hfs, h6], by simp [hfs, h7]⟩, by simp [hfs, h9], by simp [hfs, h10], fun i hi => ?_⟩
        by_cases e : i = k
        · subst e; rw [q4]; exact ⟨(fun h => by cases h), fun h => absurd h sem.out⟩
        · exact HI.out i (by omega)
      · repeat (first
          | (refine wpList_put hD hV ?hd ?_; (case hd => decide); clear hD hV; (try clear a); intro a hD hV)
          | ((first | refine wpList_plain rfl (fun K hK => ?_) | refine wpList_step (fun K hK => ?_)); go_simp; refine hK _ _ ?_; clear hK K)
          | (refine wp_cond_true ?hc ?_; (case hc => simp [Act.eval, hV, hfs]; done))
          | (refine wp_cond_false ?hc ?_; (case hc => simp [Act.eval, hV, hfs]; done))
          | go_step)
        refine wp_region_quiet_lit (by kernel_rfl) (by kernel_rfl) ?_
        repeat (first
          | (refine wpQuiet_put hD hV ?hd ?_; (case hd => decide); clear hD hV; (try clear a); intro a hD hV)
          | (refine wpQuiet_step (fun K hK => ?_); go_simp; refine hK _ ?_; clear hK K))
        refine wpQuiet_nil ?_
        intro w' hw'
        obtain ⟨nq, hw''⟩ := hw'
        subst hw''
        repeat (first
          | (refine wpList_put hD hV ?hd ?_; (case hd => decide); clear hD hV; (try clear a); intro a hD hV)
          | ((first | refine wpList_plain rfl (fun K hK => ?_) | refine wpList_step (fun K hK => ?_)); go_simp; refine hK _ _ ?_; clear hK K)
          | (refine wp_cond_true ?hc ?_; (case hc => simp [Act.eval, hV, hfs]; done))
          | (refine wp_cond_false ?hc ?_; (case hc => simp [Act.eval, hV, hfs]; done))
          | go_step)
        exact HR.out a _ _ hD hV (by simp [hfs]) (bdrewN HW.out _) (fun h => sem.out ((h.pl k hkn).1 q4))
  · repeat (first
      | (refine wpList_put hD hV ?hd ?_; (case hd => decide); clear hD hV; (try clear a); intro a hD hV)
      | ((first | refine wpList_plain rfl (fun K hK => ?_) | refine wpList_step (fun K hK => ?_)); go_simp; refine hK _ _ ?_; clear hK K)
      | (refine wp_cond_true ?hc ?_; (case hc => simp [Act.eval, hV, hfs]; done))
      | (refine wp_cond_false ?hc ?_; (case hc => simp [Act.eval, hV, hfs]; done))
      | go_step)
    exact HN.out a _ _ hD hV ⟨by simp [hfs, h0], by simp [hfs, h3], by simp [hfs, h5], by simp [hfs, h6], by simp [hfs, h7]⟩ (by simp [hfs, h9]) (bdrewN HW.out _) hB (HO.out.drewN _) (fun i hi => HI.out i (by omega))
end
end Go.Proofs.Qxb6616080a
