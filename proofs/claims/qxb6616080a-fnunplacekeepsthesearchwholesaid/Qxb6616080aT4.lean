import Derived.Test.Qxb6616080aMd
namespace Go.Proofs.Qxb6616080a
open Go.RowKit
set_option linter.unusedVariables false
set_option linter.unusedSimpArgs false
set_option maxRecDepth 100000

/-- The slots that the tail reads. -/
structure S4 (T : Ad) (E : Env) (g g5 X : Nat) (f : Nat → Value) : Prop where
  h0 : f 0 = .slice T.oA E.n T.oc
  h3 : f 3 = .pointer (some ⟨g, 0, none⟩)
  h5 : f 5 = .pointer (some ⟨g5, 0, none⟩)
  h6 : f 6 = .pointer (some ⟨X, 0, none⟩)

section
variable {Q : Exit → Act → World → Prop} {w0 W7 : World} {g g5 X H : Nat} {τ : Nat → Nat} {T T2 : Ad} {L : Nat → Nat} {E : Env} {D D' : Dyn}

set_option maxHeartbeats 2000000 in
/-- Everything taken back. -/
theorem t4_6 {a : Act} {f : Nat → Value} (hM : Md w0 g g5 τ W7 X H T T2 L E D) (hs : S4 T E g g5 X f) (hD : a.defers = []) (hV : ∀ j, j < 149 → a.tmps[j]? = some (f j))
    (hNext : ∀ (a : Act) (f : Nat → Value) (w' : World) (D' : Dyn), a.defers = [] → (∀ j, j < 149 → a.tmps[j]? = some (f j)) → S4 T E g g5 X f → Inv τ W7 w' X H T2 E D' → (∀ c, c < E.nc → D'.next c = 0) → Q .normal a w') :
    Code.wp Try.prog (sub [1, 1, 1, 1, 1, 1, 0] (Try.f4.body.getD .skip)) Q a W7 := by
  have hfs := fset_at
  obtain ⟨h0, h3, h5, h6⟩ := hs
  have HN := hide hNext
  have HM := hide hM
  have mnc := hM.es.nc
  clear hNext hM
  conv => arg 2; whnf
  repeat (first
    | (refine wpList_put hD hV ?hd ?_; (case hd => decide); clear hD hV; (try clear a); intro a hD hV)
    | ((first | refine wpList_plain rfl (fun K hK => ?_) | refine wpList_step (fun K hK => ?_)); go_simp; refine hK _ _ ?_; clear hK K)
    | (refine wp_cond_true ?hc ?_; (case hc => simp [Act.eval, hV, hfs]; done))
    | (refine wp_cond_false ?hc ?_; (case hc => simp [Act.eval, hV, hfs]; done))
    | go_step)
  refine wp_loop_f (N := 149) (fun m f w' => ∃ (k : Nat) (D' : Dyn), k ≤ E.nc ∧ m = E.nc - k ∧ f 7 = .int .i64 (k : Nat) ∧ S4 T E g g5 X f ∧ Inv τ W7 w' X H T2 E D' ∧ (∀ c, c < k → D'.next c = 0) ∧ (∀ c, k ≤ c → c < E.nc → D'.next c = D.next c)) E.nc hD hV
    ⟨0, D, by omega, by omega, by simp [hfs], ⟨by simp [hfs, h0], by simp [hfs, h3], by simp [hfs, h5], by simp [hfs, h6]⟩, HM.out.inv, fun c hc => by omega, fun c _ _ => rfl⟩ ?_
  clear h0 h3 h5 h6 hD hV a f
  intro m f w' a hD hV ⟨k, D', hk, hm', h7, hs, hI, hz, hr⟩ K hK
  obtain ⟨h0, h3, h5, h6⟩ := hs
  have HK := hide hK
  have HI := hide hI
  have HZ := hide hz
  have HR := hide hr
  have s1 : w'.cell? ⟨g, 1, none⟩ = some (.slice (T.A 1) E.nc (T.cap 1)) := HM.out.s hI 1 (by decide)
  have s2 : w'.cell? ⟨g, 2, none⟩ = some (.slice (T.A 2) E.nc (T.cap 2)) := HM.out.s hI 2 (by decide)
  clear hK hI hz hr
  by_cases hkn : k < E.nc
  · have n2 := (HM.out.rd HI.out).n2 (by omega)
    have d2 := (HM.out.rd HI.out).d2 k hkn
    have e4 : IntKind.i64.wrap ((k : Int) + 1) = (k : Int) + 1 := wrap64 (by unfold i64; omega)
    obtain ⟨j0, hj0⟩ : ∃ j : Nat, D.next k = (j : Int) := ⟨(D.next k).toNat, by have := (HM.out.inv.ho.nx k hkn).1; omega⟩
    have hjb : j0 ≤ 1048576 := by have := (HM.out.inv.ho.nx k hkn).2; have := HM.out.es.cl k hkn; omega
    rw [hj0] at d2
    have HJ0 := hide hj0
    clear hj0
    repeat (first
      | (refine wpList_put hD hV ?hd ?_; (case hd => decide); clear hD hV; (try clear a); intro a hD hV)
      | ((first | refine wpList_plain rfl (fun K hK => ?_) | refine wpList_step (fun K hK => ?_)); go_simp; refine hK _ _ ?_; clear hK K)
      | (refine wp_cond_true ?hc ?_; (case hc => simp [Act.eval, hV, hfs]; done))
      | (refine wp_cond_false ?hc ?_; (case hc => simp [Act.eval, hV, hfs]; done))
      | go_step)
    refine wp_loop_f (N := 149) (fun m f w' => ∃ (j : Nat) (D' : Dyn), j ≤ j0 ∧ m = j ∧ f 7 = .int .i64 (k : Nat) ∧ f 8 = .int .i64 (j : Nat) ∧ S4 T E g g5 X f ∧ Inv τ W7 w' X H T2 E D' ∧ (∀ c, c < k → D'.next c = 0) ∧ D'.next k = (j : Int) ∧ (∀ c, k + 1 ≤ c → c < E.nc → D'.next c = D.next c)) j0 hD hV
      ⟨j0, D', Nat.le_refl _, rfl, by simp [hfs, h7], by simp [hfs], ⟨by simp [hfs, h0], by simp [hfs, h3], by simp [hfs, h5], by simp [hfs, h6]⟩, HI.out, HZ.out, by rw [HR.out k (Nat.le_refl _) hkn, HJ0.out], fun c h1 h2 => HR.out c (by omega) h2⟩ ?_
    clear h0 h3 h5 h6 h7 hD hV a f s1 s2 d2 HI HZ HR D' w'
    intro m2 f w' a hD hV ⟨j, D', hj, hm2, h7, h8, hs, hI, hz, hjk, hr⟩ K2 hK2
    obtain ⟨h0, h3, h5, h6⟩ := hs
    have HK2 := hide hK2
    have HI := hide hI
    have HZ := hide hz
    have HR := hide hr
    have HJ := hide hjk
    clear hK2 hI hz hr hjk
    by_cases hj1 : 0 < j
    · have e5 : IntKind.i64.wrap ((j : Int) - 1) = ((j - 1 : Nat) : Int) := by rw [wrap64 (by unfold i64; omega)]; omega
      have q1 : (0 : Int) < (j : Int) := by omega
      repeat (first
        | (refine wpList_put hD hV ?hd ?_; (case hd => decide); clear hD hV; (try clear a); intro a hD hV)
        | ((first | refine wpList_plain rfl (fun K hK => ?_) | refine wpList_step (fun K hK => ?_)); go_simp; refine hK _ _ ?_; clear hK K)
        | (refine wp_cond_true ?hc ?_; (case hc => simp [Act.eval, hV, hfs]; done))
        | (refine wp_cond_false ?hc ?_; (case hc => simp [Act.eval, hV, hfs]; done))
        | go_step)
      refine (HI.out.step (c := k) (p := -1) hkn (by rw [HJ.out]; omega) (fun _ => by omega) (fun _ => .inl rfl)).mono ?_
      rintro e w2 ⟨rfl, hI2⟩
      have HI2 := hide hI2
      clear hI2
      dsimp only
      repeat (first
        | (refine wpList_put hD hV ?hd ?_; (case hd => decide); clear hD hV; (try clear a); intro a hD hV)
        | ((first | refine wpList_plain rfl (fun K hK => ?_) | refine wpList_step (fun K hK => ?_)); go_simp; refine hK _ _ ?_; clear hK K)
        | (refine wp_cond_true ?hc ?_; (case hc => simp [Act.eval, hV, hfs]; done))
        | (refine wp_cond_false ?hc ?_; (case hc => simp [Act.eval, hV, hfs]; done))
        | go_step)
      refine HK2.out a _ _ (j - 1) hD hV (by omega) ⟨j - 1, _, by omega, rfl, by simp [hfs, h7], by simp [hfs], ⟨by simp [hfs, h0], by simp [hfs, h3], by simp [hfs, h5], by simp [hfs, h6]⟩, HI2.out, fun c hc => ?_, ?_, fun c h1 h2 => ?_⟩
      · rw [(unplace_fields k (-1)).1]; unfold upd; rw [if_neg (by omega)]; exact HZ.out c hc
      · rw [(unplace_fields k (-1)).1]; unfold upd; rw [if_pos rfl, HJ.out]; omega
      · rw [(unplace_fields k (-1)).1]; unfold upd; rw [if_neg (by omega)]; exact HR.out c h1 h2
    · have q1 : ¬ (0 : Int) < (j : Int) := by omega
      have hj00 : j = 0 := by omega
      repeat (first
        | (refine wpList_put hD hV ?hd ?_; (case hd => decide); clear hD hV; (try clear a); intro a hD hV)
        | ((first | refine wpList_plain rfl (fun K hK => ?_) | refine wpList_step (fun K hK => ?_)); go_simp; refine hK _ _ ?_; clear hK K)
        | (refine wp_cond_true ?hc ?_; (case hc => simp [Act.eval, hV, hfs]; done))
        | (refine wp_cond_false ?hc ?_; (case hc => simp [Act.eval, hV, hfs]; done))
        | go_step)
      refine HK.out a _ _ (E.nc - (k + 1)) hD hV (by omega) ⟨k + 1, D', by omega, rfl, by simp [hfs], ⟨by simp [hfs, h0], by simp [hfs, h3], by simp [hfs, h5], by simp [hfs, h6]⟩, HI.out, fun c hc => ?_, HR.out⟩
      by_cases e : c = k
      · subst e; rw [HJ.out]; omega
      · exact HZ.out c (by omega)
  · repeat (first
      | (refine wpList_put hD hV ?hd ?_; (case hd => decide); clear hD hV; (try clear a); intro a hD hV)
      | ((first | refine wpList_plain rfl (fun K hK => ?_) | refine wpList_step (fun K hK => ?_)); go_simp; refine hK _ _ ?_; clear hK K)
      | (refine wp_cond_true ?hc ?_; (case hc => simp [Act.eval, hV, hfs]; done))
      | (refine wp_cond_false ?hc ?_; (case hc => simp [Act.eval, hV, hfs]; done))
      | go_step)
    exact HN.out a _ _ D' hD hV ⟨by simp [hfs, h0], by simp [hfs, h3], by simp [hfs, h5], by simp [hfs, h6]⟩ HI.out (fun c hc => HZ.out c (by omega))

set_option maxHeartbeats 1000000 in
/-- What the search holds, written back into the copy. -/
theorem t4_7 {a : Act} {w' : World} {f : Nat → Value} (hM : Md w0 g g5 τ W7 X H T T2 L E D) (hI : Inv τ W7 w' X H T2 E D') (hs : S4 T E g g5 X f) (hD : a.defers = []) (hV : ∀ j, j < 149 → a.tmps[j]? = some (f j))
    (hNext : ∀ (a : Act) (f : Nat → Value), a.defers = [] → (∀ j, j < 149 → a.tmps[j]? = some (f j)) → S4 T E g g5 X f → Q .normal a (w'.setCell ⟨g5, 3, none⟩ (.int .i64 D'.toPlace))) :
    Code.wp Try.prog (sub [1, 1, 1, 1, 1, 1, 1, 0] (Try.f4.body.getD .skip)) Q a w' := by
  have hfs := fset_at
  obtain ⟨h0, h3, h5, h6⟩ := hs
  have HN := hide hNext
  have ht := hM.t hI
  have s3 : w'.cell? ⟨g5, 3, none⟩ = some (.int .i64 D.toPlace) := Sb.of_row ht 3 (by decide)
  have fr := row_frozen ht 3
  have HX := hide hI.sx
  clear hNext hI hM ht
  conv => arg 2; whnf
  repeat (first
    | (refine wpList_put hD hV ?hd ?_; (case hd => decide); clear hD hV; (try clear a); intro a hD hV)
    | ((first | refine wpList_plain rfl (fun K hK => ?_) | refine wpList_step (fun K hK => ?_)); go_simp; refine hK _ _ ?_; clear hK K)
    | (refine wp_cond_true ?hc ?_; (case hc => simp [Act.eval, hV, hfs]; done))
    | (refine wp_cond_false ?hc ?_; (case hc => simp [Act.eval, hV, hfs]; done))
    | go_step)
  refine (f13_to HX.out).mono ?_
  rintro e w1 ⟨rfl, hw⟩
  obtain rfl : w' = w1 := hw.symm
  clear hw
  dsimp only
  repeat (first
    | (refine wpList_put hD hV ?hd ?_; (case hd => decide); clear hD hV; (try clear a); intro a hD hV)
    | ((first | refine wpList_plain rfl (fun K hK => ?_) | refine wpList_step (fun K hK => ?_)); go_simp; refine hK _ _ ?_; clear hK K)
    | (refine wp_cond_true ?hc ?_; (case hc => simp [Act.eval, hV, hfs]; done))
    | (refine wp_cond_false ?hc ?_; (case hc => simp [Act.eval, hV, hfs]; done))
    | go_step)
  exact HN.out a _ hD hV ⟨by simp [hfs, h0], by simp [hfs, h3], by simp [hfs, h5], by simp [hfs, h6]⟩
set_option maxHeartbeats 1000000 in
theorem t4_8 {a : Act} {w' : World} {f : Nat → Value} (hM : Md w0 g g5 τ W7 X H T T2 L E D) (hI : Inv τ W7 w' X H T2 E D') (hs : S4 T E g g5 X f) (hD : a.defers = []) (hV : ∀ j, j < 149 → a.tmps[j]? = some (f j))
    (hNext : ∀ (a : Act) (f : Nat → Value) (W : World), a.defers = [] → (∀ j, j < 149 → a.tmps[j]? = some (f j)) → S4 T E g g5 X f → Fi w0 g g5 W T T2 E D D' → Q .normal a W) :
    Code.wp Try.prog (sub [1, 1, 1, 1, 1, 1, 1, 1, 0] (Try.f4.body.getD .skip)) Q a (w'.setCell ⟨g5, 3, none⟩ (.int .i64 D'.toPlace)) := by
  have hfs := fset_at
  obtain ⟨h0, h3, h5, h6⟩ := hs
  have HN := hide hNext
  have ht := row_set (hM.t hI) 3 (.int .i64 D'.toPlace)
  have s3 : (w'.setCell ⟨g5, 3, none⟩ (.int .i64 D'.toPlace)).cell? ⟨g5, 18, none⟩ = some (.int .u64 (D.hash : Nat)) := by
    simp only [World.cell?, ht]
    rfl
  have fr := row_frozen ht 18
  have HX := hide (hM.sx3 hI 3 (.int .i64 D'.toPlace))
  have HF := hide (hM.fin hI)
  obtain ⟨W, hW⟩ : ∃ W, w'.setCell ⟨g5, 3, none⟩ (.int .i64 D'.toPlace) = W := ⟨_, rfl⟩
  rw [hW] at s3 fr HX HF ⊢
  clear hNext hI hM ht hW
  conv => arg 2; whnf
  repeat (first
    | (refine wpList_put hD hV ?hd ?_; (case hd => decide); clear hD hV; (try clear a); intro a hD hV)
    | ((first | refine wpList_plain rfl (fun K hK => ?_) | refine wpList_step (fun K hK => ?_)); go_simp; refine hK _ _ ?_; clear hK K)
    | (refine wp_cond_true ?hc ?_; (case hc => simp [Act.eval, hV, hfs]; done))
    | (refine wp_cond_false ?hc ?_; (case hc => simp [Act.eval, hV, hfs]; done))
    | go_step)
  refine (f14_to HX.out).mono ?_
  rintro e w1 ⟨rfl, hw⟩
  obtain rfl : W = w1 := hw.symm
  clear hw
  dsimp only
  repeat (first
    | (refine wpList_put hD hV ?hd ?_; (case hd => decide); clear hD hV; (try clear a); intro a hD hV)
    | ((first | refine wpList_plain rfl (fun K hK => ?_) | refine wpList_step (fun K hK => ?_)); go_simp; refine hK _ _ ?_; clear hK K)
    | (refine wp_cond_true ?hc ?_; (case hc => simp [Act.eval, hV, hfs]; done))
    | (refine wp_cond_false ?hc ?_; (case hc => simp [Act.eval, hV, hfs]; done))
    | go_step)
  exact HN.out a _ _ hD hV ⟨by simp [hfs, h0], by simp [hfs, h3], by simp [hfs, h5], by simp [hfs, h6]⟩ HF.out

set_option maxHeartbeats 1000000 in
theorem t4_9 {a : Act} {w : World} {f : Nat → Value} (hF : Fi w0 g g5 w T T2 E D D') (hz : ∀ c, c < E.nc → D'.next c = 0) (hs : S4 T E g g5 X f) (hD : a.defers = []) (hV : ∀ j, j < 149 → a.tmps[j]? = some (f j))
    (hNext : ∀ (a : Act) (f : Nat → Value), a.defers = [] → (∀ j, j < 149 → a.tmps[j]? = some (f j)) → S4 T E g g5 X f → Q .normal a w) :
    Code.wp Try.prog (sub [1, 1, 1, 1, 1, 1, 1, 1, 1, 0] (Try.f4.body.getD .skip)) Q a w := by
  have hfs := fset_at
  obtain ⟨h0, h3, h5, h6⟩ := hs
  have HN := hide hNext
  have hh := (hF.ho.zero hz).2.1
  have s18 : w.cell? ⟨g5, 18, none⟩ = some (.int .u64 (D'.hash : Nat)) := Sb.of_row hF.tb 18 (by decide)
  rw [hh] at s18
  clear hNext hF hh
  conv => arg 2; whnf
  repeat (first
    | (refine wpList_put hD hV ?hd ?_; (case hd => decide); clear hD hV; (try clear a); intro a hD hV)
    | ((first | refine wpList_plain rfl (fun K hK => ?_) | refine wpList_step (fun K hK => ?_)); go_simp; refine hK _ _ ?_; clear hK K)
    | (refine wp_cond_true ?hc ?_; (case hc => simp [Act.eval, hV, hfs]; done))
    | (refine wp_cond_false ?hc ?_; (case hc => simp [Act.eval, hV, hfs]; done))
    | go_step)
  exact HN.out a _ hD hV ⟨by simp [hfs, h0], by simp [hfs, h3], by simp [hfs, h5], by simp [hfs, h6]⟩
theorem t4_10 {a : Act} {w : World} {f : Nat → Value} (hs : S4 T E g g5 X f) (hD : a.defers = []) (hV : ∀ j, j < 149 → a.tmps[j]? = some (f j))
    (hNext : ∀ (a : Act) (f : Nat → Value), a.defers = [] → (∀ j, j < 149 → a.tmps[j]? = some (f j)) → S4 T E g g5 X f → f 9 = .int .i64 0 → Q .normal a w) :
    Code.wp Try.prog (sub [1, 1, 1, 1, 1, 1, 1, 1, 1, 1, 0] (Try.f4.body.getD .skip)) Q a w := by
  have hfs := fset_at
  obtain ⟨h0, h3, h5, h6⟩ := hs
  have HN := hide hNext
  clear hNext
  conv => arg 2; whnf
  repeat (first
    | (refine wpList_put hD hV ?hd ?_; (case hd => decide); clear hD hV; (try clear a); intro a hD hV)
    | ((first | refine wpList_plain rfl (fun K hK => ?_) | refine wpList_step (fun K hK => ?_)); go_simp; refine hK _ _ ?_; clear hK K)
    | (refine wp_cond_true ?hc ?_; (case hc => simp [Act.eval, hV, hfs]; done))
    | (refine wp_cond_false ?hc ?_; (case hc => simp [Act.eval, hV, hfs]; done))
    | go_step)
  exact HN.out a _ hD hV ⟨by simp [hfs, h0], by simp [hfs, h3], by simp [hfs, h5], by simp [hfs, h6]⟩ (by simp [hfs])

set_option maxHeartbeats 2000000 in
/-- Nothing placed, the chains as they were. -/
theorem t4_11 {a : Act} {w : World} {f : Nat → Value} (hF : Fi w0 g g5 w T T2 E D D') (hz : ∀ c, c < E.nc → D'.next c = 0) (hs : S4 T E g g5 X f) (h9 : f 9 = .int .i64 0) (hD : a.defers = []) (hV : ∀ j, j < 149 → a.tmps[j]? = some (f j))
    (hNext : ∀ (a : Act) (f : Nat → Value) (q : Nat), a.defers = [] → (∀ j, j < 149 → a.tmps[j]? = some (f j)) → S4 T E g g5 X f → f 9 = .int .i64 (tot E.nc (fun c => (E.cl c : Int))) → Q .normal a (w.drewN q)) :
    Code.wp Try.prog (sub [1, 1, 1, 1, 1, 1, 1, 1, 1, 1, 1, 0] (Try.f4.body.getD .skip)) Q a w := by
  have hfs := fset_at
  obtain ⟨h0, h3, h5, h6⟩ := hs
  have HN := hide hNext
  have HF := hide hF
  have HZ := hide hz
  have mnc := hF.rd.m_c
  have s1 : w.cell? ⟨g, 1, none⟩ = some (.slice (T.A 1) E.nc (T.cap 1)) := hF.sb 1 (by decide)
  have u1 : w.cell? ⟨g5, 1, none⟩ = some (.slice (T2.A 1) E.nc (T2.cap 1)) := Sb.of_row hF.tb 1 (by decide)
  have u2 : w.cell? ⟨g5, 2, none⟩ = some (.slice (T2.A 2) E.nc (T2.cap 2)) := Sb.of_row hF.tb 2 (by decide)
  clear hNext hF hz
  conv => arg 2; whnf
  repeat (first
    | (refine wpList_put hD hV ?hd ?_; (case hd => decide); clear hD hV; (try clear a); intro a hD hV)
    | ((first | refine wpList_plain rfl (fun K hK => ?_) | refine wpList_step (fun K hK => ?_)); go_simp; refine hK _ _ ?_; clear hK K)
    | (refine wp_cond_true ?hc ?_; (case hc => simp [Act.eval, hV, hfs]; done))
    | (refine wp_cond_false ?hc ?_; (case hc => simp [Act.eval, hV, hfs]; done))
    | go_step)
  refine wp_loop_f (N := 149) (fun m f w' => ∃ (k q : Nat), k ≤ E.nc ∧ m = E.nc - k ∧ w' = w.drewN q ∧ f 10 = .int .i64 (k : Nat) ∧ f 9 = .int .i64 (tot k (fun c => (E.cl c : Int))) ∧ S4 T E g g5 X f) E.nc hD hV
    ⟨0, 0, by omega, by omega, rfl, by simp [hfs], by simp [hfs, h9, tot], ⟨by simp [hfs, h0], by simp [hfs, h3], by simp [hfs, h5], by simp [hfs, h6]⟩⟩ ?_
  clear h0 h3 h5 h6 h9 hD hV a f
  intro m f w' a hD hV ⟨k, q, hk, hm', hw, h10, h9, hs⟩ K hK
  subst hw
  obtain ⟨h0, h3, h5, h6⟩ := hs
  have HK := hide hK
  clear hK
  by_cases hkn : k < E.nc
  · have n1 := HF.out.rd.n1 (by omega)
    have d1 := HF.out.rd.d1 k hkn
    have m1 : T2.A 1 = some ⟨T2.b 1, T2.o 1, none⟩ := HF.out.rt.n1 (by omega)
    have c1 : w.cell? ⟨T2.b 1, T2.o 1 + k, none⟩ = some (.slice (T2.cA k) (E.cl k) (T2.cc k)) := HF.out.rt.d1 k hkn
    have m2 : T2.A 2 = some ⟨T2.b 2, T2.o 2, none⟩ := HF.out.rt.n2 (by omega)
    have c2 : w.cell? ⟨T2.b 2, T2.o 2 + k, none⟩ = some (.int .i64 (D'.next k)) := HF.out.rt.d2 k hkn
    rw [HZ.out k hkn] at c2
    have e4 : IntKind.i64.wrap ((k : Int) + 1) = (k : Int) + 1 := wrap64 (by unfold i64; omega)
    have htr := tot_range (f := fun c => (E.cl c : Int)) (b := 1048576) (n := k) (fun j hj => by have := HF.out.rd.m_cl j (by omega); omega)
    have e5 : IntKind.i64.wrap (tot k (fun c => (E.cl c : Int)) + (E.cl k : Int)) = tot (k + 1) (fun c => (E.cl c : Int)) := by
      have := HF.out.rd.m_cl k hkn
      rw [wrap64 (by unfold i64; omega)]
      rfl
    clear htr
    generalize tot k (fun c => (E.cl c : Int)) = tk at h9 e5
    generalize htk1 : tot (k + 1) (fun c => (E.cl c : Int)) = tk1 at e5
    have HT := hide htk1
    have H15 : Hid (∀ n, Calls Try.prog 15 #[.slice (T2.cA k) (E.cl k) (T2.cc k), .slice (T.cA k) (E.cl k) (T.cc k)] (w.drewN n) fun e w' => e = .returned (.bool true) ∧ ∃ j, w' = (w.drewN n).drewN j) := fun n =>
      f15_to (T2.cA k) (T.cA k) (T2.cb k) (T2.co k) (T.cb k) (T.co k) (T2.cc k) (T.cc k) (E.cl k) (E.ch k) (w.drewN n) (HF.out.rd.m_cl k hkn) (HF.out.rt.cn k hkn) (HF.out.rd.cn k hkn) (HF.out.rt.cd k hkn) (HF.out.rd.cd k hkn)
    clear htk1
    repeat (first
      | (refine wpList_put hD hV ?hd ?_; (case hd => decide); clear hD hV; (try clear a); intro a hD hV)
      | ((first | refine wpList_plain rfl (fun K hK => ?_) | refine wpList_step (fun K hK => ?_)); go_simp; refine hK _ _ ?_; clear hK K)
      | (refine wp_cond_true ?hc ?_; (case hc => simp [Act.eval, hV, hfs]; done))
      | (refine wp_cond_false ?hc ?_; (case hc => simp [Act.eval, hV, hfs]; done))
      | go_step)
    refine wp_region_quiet_lit (by kernel_rfl) (by kernel_rfl) ?_
    repeat (first
      | (refine wpQuiet_put hD hV ?hd ?_; (case hd => decide); clear hD hV; (try clear a); intro a hD hV)
      | (refine wpQuiet_step (fun K hK => ?_); go_simp; refine hK _ ?_; clear hK K))
    refine wpQuiet_step (fun K hK => ?_)
    go_simp
    refine ⟨.bool true, fun n => (H15.out (q + n)).mono (fun e w' ⟨h1, j, h2⟩ => ⟨h1, n + j, h2.trans (by rw [World.drewN_drewN, Nat.add_assoc])⟩), hK _ ?_⟩
    clear hK K
    repeat (first
      | (refine wpQuiet_put hD hV ?hd ?_; (case hd => decide); clear hD hV; (try clear a); intro a hD hV)
      | (refine wpQuiet_step (fun K hK => ?_); go_simp; refine hK _ ?_; clear hK K))
    refine wpQuiet_nil ?_
    intro w' hw'
    obtain ⟨nq, hw''⟩ := hw'
    subst hw''
    repeat (first
      | (refine wpList_put hD hV ?hd ?_; (case hd => decide); clear hD hV; (try clear a); intro a hD hV)
      | ((first | refine wpList_plain rfl (fun K hK => ?_) | refine wpList_step (fun K hK => ?_)); go_simp; refine hK _ _ ?_; clear hK K)
      | (refine wp_cond_true ?hc ?_; (case hc => simp [Act.eval, hV, hfs]; done))
      | (refine wp_cond_false ?hc ?_; (case hc => simp [Act.eval, hV, hfs]; done))
      | go_step)
    exact HK.out a _ _ (E.nc - (k + 1)) hD hV (by omega) ⟨k + 1, _, by omega, rfl, rfl, by simp [hfs], by simp [hfs, HT.out], ⟨by simp [hfs, h0], by simp [hfs, h3], by simp [hfs, h5], by simp [hfs, h6]⟩⟩
  · have ek : k = E.nc := by omega
    repeat (first
      | (refine wpList_put hD hV ?hd ?_; (case hd => decide); clear hD hV; (try clear a); intro a hD hV)
      | ((first | refine wpList_plain rfl (fun K hK => ?_) | refine wpList_step (fun K hK => ?_)); go_simp; refine hK _ _ ?_; clear hK K)
      | (refine wp_cond_true ?hc ?_; (case hc => simp [Act.eval, hV, hfs]; done))
      | (refine wp_cond_false ?hc ?_; (case hc => simp [Act.eval, hV, hfs]; done))
      | go_step)
    exact HN.out a _ _ hD hV ⟨by simp [hfs, h0], by simp [hfs, h3], by simp [hfs, h5], by simp [hfs, h6]⟩ (by simp [hfs, h9, ek])

set_option maxHeartbeats 1000000 in
theorem t4_12 {a : Act} {w : World} {f : Nat → Value} (hF : Fi w0 g g5 w T T2 E D D') (hz : ∀ c, c < E.nc → D'.next c = 0) (hs : S4 T E g g5 X f) (h9 : f 9 = .int .i64 (tot E.nc (fun c => (E.cl c : Int)))) (hD : a.defers = []) (hV : ∀ j, j < 149 → a.tmps[j]? = some (f j))
    (hNext : ∀ (a : Act) (f : Nat → Value), a.defers = [] → (∀ j, j < 149 → a.tmps[j]? = some (f j)) → S4 T E g g5 X f → Q .normal a w) :
    Code.wp Try.prog (sub [1, 1, 1, 1, 1, 1, 1, 1, 1, 1, 1, 1, 0] (Try.f4.body.getD .skip)) Q a w := by
  have hfs := fset_at
  obtain ⟨h0, h3, h5, h6⟩ := hs
  have HN := hide hNext
  have hh := (hF.ho.zero hz).2.2
  have s3 : w.cell? ⟨g5, 3, none⟩ = some (.int .i64 D'.toPlace) := Sb.of_row hF.tb 3 (by decide)
  rw [← hh] at h9
  clear hNext hF hh
  conv => arg 2; whnf
  repeat (first
    | (refine wpList_put hD hV ?hd ?_; (case hd => decide); clear hD hV; (try clear a); intro a hD hV)
    | ((first | refine wpList_plain rfl (fun K hK => ?_) | refine wpList_step (fun K hK => ?_)); go_simp; refine hK _ _ ?_; clear hK K)
    | (refine wp_cond_true ?hc ?_; (case hc => simp [Act.eval, hV, hfs]; done))
    | (refine wp_cond_false ?hc ?_; (case hc => simp [Act.eval, hV, hfs]; done))
    | go_step)
  exact HN.out a _ hD hV ⟨by simp [hfs, h0], by simp [hfs, h3], by simp [hfs, h5], by simp [hfs, h6]⟩
set_option maxHeartbeats 2000000 in
/-- Every variable at its initial value. -/
theorem t4_13 {a : Act} {w : World} {f : Nat → Value} (hF : Fi w0 g g5 w T T2 E D D') (hz : ∀ c, c < E.nc → D'.next c = 0) (hs : S4 T E g g5 X f) (hD : a.defers = []) (hV : ∀ j, j < 149 → a.tmps[j]? = some (f j))
    (hNext : ∀ (a : Act) (f : Nat → Value) (q : Nat), a.defers = [] → (∀ j, j < 149 → a.tmps[j]? = some (f j)) → S4 T E g g5 X f → Q .normal a (w.drewN q)) :
    Code.wp Try.prog (sub [1, 1, 1, 1, 1, 1, 1, 1, 1, 1, 1, 1, 1, 0] (Try.f4.body.getD .skip)) Q a w := by
  have hfs := fset_at
  obtain ⟨h0, h3, h5, h6⟩ := hs
  have HN := hide hNext
  have HF := hide hF
  have HZ := hide (hF.ho.zero hz).1
  have mnv := hF.rd.m_v
  have u5 : w.cell? ⟨g5, 5, none⟩ = some (.slice (T2.A 5) E.nv (T2.cap 5)) := Sb.of_row hF.tb 5 (by decide)
  clear hNext hF hz
  conv => arg 2; whnf
  repeat (first
    | (refine wpList_put hD hV ?hd ?_; (case hd => decide); clear hD hV; (try clear a); intro a hD hV)
    | ((first | refine wpList_plain rfl (fun K hK => ?_) | refine wpList_step (fun K hK => ?_)); go_simp; refine hK _ _ ?_; clear hK K)
    | (refine wp_cond_true ?hc ?_; (case hc => simp [Act.eval, hV, hfs]; done))
    | (refine wp_cond_false ?hc ?_; (case hc => simp [Act.eval, hV, hfs]; done))
    | go_step)
  refine wp_loop_f (N := 149) (fun m f w' => ∃ (k q : Nat), k ≤ E.nv ∧ m = E.nv - k ∧ w' = w.drewN q ∧ f 11 = .int .i64 (k : Nat) ∧ S4 T E g g5 X f) E.nv hD hV
    ⟨0, 0, by omega, by omega, rfl, by simp [hfs], ⟨by simp [hfs, h0], by simp [hfs, h3], by simp [hfs, h5], by simp [hfs, h6]⟩⟩ ?_
  clear h0 h3 h5 h6 hD hV a f
  intro m f w' a hD hV ⟨k, q, hk, hm', hw, h11, hs⟩ K hK
  subst hw
  obtain ⟨h0, h3, h5, h6⟩ := hs
  have HK := hide hK
  clear hK
  by_cases hkn : k < E.nv
  · have m5 : T2.A 5 = some ⟨T2.b 5, T2.o 5, none⟩ := HF.out.rt.n5 (by omega)
    have c5 : w.cell? ⟨T2.b 5, T2.o 5 + k, none⟩ = some (.int .i32 (D'.current k)) := HF.out.rt.d5 k hkn
    rw [HZ.out k hkn] at c5
    have e4 : IntKind.i64.wrap ((k : Int) + 1) = (k : Int) + 1 := wrap64 (by unfold i64; omega)
    repeat (first
      | (refine wpList_put hD hV ?hd ?_; (case hd => decide); clear hD hV; (try clear a); intro a hD hV)
      | ((first | refine wpList_plain rfl (fun K hK => ?_) | refine wpList_step (fun K hK => ?_)); go_simp; refine hK _ _ ?_; clear hK K)
      | (refine wp_cond_true ?hc ?_; (case hc => simp [Act.eval, hV, hfs]; done))
      | (refine wp_cond_false ?hc ?_; (case hc => simp [Act.eval, hV, hfs]; done))
      | go_step)
    exact HK.out a _ _ (E.nv - (k + 1)) hD hV (by omega) ⟨k + 1, _, by omega, rfl, rfl, by simp [hfs], ⟨by simp [hfs, h0], by simp [hfs, h3], by simp [hfs, h5], by simp [hfs, h6]⟩⟩
  · repeat (first
      | (refine wpList_put hD hV ?hd ?_; (case hd => decide); clear hD hV; (try clear a); intro a hD hV)
      | ((first | refine wpList_plain rfl (fun K hK => ?_) | refine wpList_step (fun K hK => ?_)); go_simp; refine hK _ _ ?_; clear hK K)
      | (refine wp_cond_true ?hc ?_; (case hc => simp [Act.eval, hV, hfs]; done))
      | (refine wp_cond_false ?hc ?_; (case hc => simp [Act.eval, hV, hfs]; done))
      | go_step)
    exact HN.out a _ _ hD hV ⟨by simp [hfs, h0], by simp [hfs, h3], by simp [hfs, h5], by simp [hfs, h6]⟩
set_option maxHeartbeats 1000000 in
/-- The last call. -/
theorem t4_14 {a : Act} {w : World} {f : Nat → Value} (hF : Fi w0 g g5 w T T2 E D D') (hs : S4 T E g g5 X f) (hD : a.defers = []) (hV : ∀ j, j < 149 → a.tmps[j]? = some (f j))
    (hEnd : ∀ (a : Act) (f : Nat → Value) (w' : World), a.defers = [] → (∀ j, j < 149 → a.tmps[j]? = some (f j)) → f 4 = .bool true → Below w0.heap.size w0 w' → Q .ret a w') :
    Code.wp Try.prog (sub [1, 1, 1, 1, 1, 1, 1, 1, 1, 1, 1, 1, 1, 1] (Try.f4.body.getD .skip)) Q a w := by
  have hfs := fset_at
  obtain ⟨h0, h3, h5, h6⟩ := hs
  have HN := hide hEnd
  have H7 := hide hF.call
  have htb := hF.tb
  have hsz : (Try.prog.info? 30).map (·.size) = some (sval T2 E D').size := Try.info30'
  generalize sval T2 E D' = V2 at H7 htb hsz
  have HT := hide htb
  have HS := hide hsz
  clear hEnd hF htb hsz
  conv => arg 2; whnf
  repeat (first
    | (refine wpList_put hD hV ?hd ?_; (case hd => decide); clear hD hV; (try clear a); intro a hD hV)
    | (refine wpList_load_row rfl 30 _ rfl g5 (by simp [Act.eval, hV, hfs, h5]) 30 V2 (0, 0) _ HT.out Try.underlying30 rfl HS.out ?_; show wpList _ _ _ _ ⟨a.tmps.setIfInBounds 147 (.agg V2), a.defers⟩ _; rw [hD])
    | ((first | refine wpList_plain rfl (fun K hK => ?_) | refine wpList_step (fun K hK => ?_)); go_simp; refine hK _ _ ?_; clear hK K)
    | go_step)
  refine H7.out.mono ?_
  rintro e w1 ⟨rfl, hb1⟩
  have HB := hide hb1
  clear hb1
  dsimp only
  repeat (first
    | (refine wpList_put hD hV ?hd ?_; (case hd => decide); clear hD hV; (try clear a); intro a hD hV)
    | ((first | refine wpList_plain rfl (fun K hK => ?_) | refine wpList_step (fun K hK => ?_)); go_simp; refine hK _ _ ?_; clear hK K)
    | (refine wp_cond_true ?hc ?_; (case hc => simp [Act.eval, hV, hfs]; done))
    | (refine wp_cond_false ?hc ?_; (case hc => simp [Act.eval, hV, hfs]; done))
    | go_step)
  exact HN.out a _ _ hD hV (by simp [hfs]) HB.out

end
end Go.Proofs.Qxb6616080a
