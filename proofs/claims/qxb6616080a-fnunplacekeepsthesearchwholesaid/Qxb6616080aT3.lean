import Derived.Test.Qxb6616080aT4b
import Derived.Test.Qxb6616080aF8
namespace Go.Proofs.Qxb6616080a
open Go.RowKit
set_option linter.unusedVariables false
set_option linter.unusedSimpArgs false
set_option maxRecDepth 100000

/-- The slots that the tail reads. -/
structure S3 (T : Ad) (E : Env) (c : Nat) (p : Int) (g g5 X : Nat) (f : Nat → Value) : Prop where
  h0 : f 0 = .slice T.oA E.n T.oc
  h2 : f 2 = .int .i64 (c : Nat)
  h3 : f 3 = .int .i32 p
  h5 : f 5 = .pointer (some ⟨g, 0, none⟩)
  h9 : f 9 = .pointer (some ⟨g5, 0, none⟩)
  h10 : f 10 = .pointer (some ⟨X, 0, none⟩)

section
variable {Q : Exit → Act → World → Prop} {w0 W7 : World} {g g5 X H : Nat} {τ : Nat → Nat} {T T2 : Ad} {L : Nat → Nat} {E : Env} {D D' : Dyn} {c : Nat} {p : Int}

set_option maxHeartbeats 1000000 in
theorem t3_7 {a : Act} {f : Nat → Value} (hM : Md w0 g g5 τ W7 X H T T2 L E D) (hP : Prem E D (c : Int) p) (hs : S3 T E c p g g5 X f) (hD : a.defers = []) (hV : ∀ j, j < 179 → a.tmps[j]? = some (f j))
    (hNext : ∀ (a : Act) (f : Nat → Value) (w' : World), a.defers = [] → (∀ j, j < 179 → a.tmps[j]? = some (f j)) → S3 T E c p g g5 X f → Inv τ W7 w' X H T2 E (unplace E D zmix c p) → Q .normal a w') :
    Code.wp Try.prog (sub [1, 1, 1, 1, 1, 1, 1, 0] (Try.f3.body.getD .skip)) Q a W7 := by
  have hfs := fset_at
  obtain ⟨h0, h2, h3, h5, h9, h10⟩ := hs
  have HN := hide hNext
  have mn := hM.es.n
  have H12 : Hid (Calls Try.prog 12 #[.pointer (some ⟨X, 0, none⟩), .int .i64 (c : Nat), .int .i32 p] W7 fun e w'' => e = .returned (.tuple #[]) ∧ Inv τ W7 w'' X H T2 E (unplace E D zmix c p)) := by
    obtain ⟨c', hc', hc, h1, hw⟩ := hP
    obtain rfl : c = c' := by omega
    exact hM.inv.step hc h1 (fun h => by rcases hw h with h | ⟨h, _⟩ <;> omega) hw
  clear hNext hM hP
  conv => arg 2; whnf
  repeat (first
    | (refine wpList_put hD hV ?hd ?_; (case hd => decide); clear hD hV; (try clear a); intro a hD hV)
    | ((first | refine wpList_plain rfl (fun K hK => ?_) | refine wpList_step (fun K hK => ?_)); go_simp; refine hK _ _ ?_; clear hK K)
    | (refine wp_cond_true ?hc ?_; (case hc => simp [Act.eval, hV, hfs]; done))
    | (refine wp_cond_false ?hc ?_; (case hc => simp [Act.eval, hV, hfs]; done))
    | go_step)
  refine H12.out.mono ?_
  rintro e w2 ⟨rfl, hI2⟩
  have HI2 := hide hI2
  clear hI2
  dsimp only
  repeat (first
    | (refine wpList_put hD hV ?hd ?_; (case hd => decide); clear hD hV; (try clear a); intro a hD hV)
    | ((first | refine wpList_plain rfl (fun K hK => ?_) | refine wpList_step (fun K hK => ?_)); go_simp; refine hK _ _ ?_; clear hK K)
    | (refine wp_cond_true ?hc ?_; (case hc => simp [Act.eval, hV, hfs]; done))
    | (refine wp_cond_false ?hc ?_; (case hc => simp [Act.eval, hV, hfs]; done))
    | go_step)
  exact HN.out a _ _ hD hV ⟨by simp [hfs, h0], by simp [hfs, h2], by simp [hfs, h3], by simp [hfs, h5], by simp [hfs, h9], by simp [hfs, h10]⟩ HI2.out

set_option maxHeartbeats 1000000 in
theorem t3_8 {a : Act} {w' : World} {f : Nat → Value} (hM : Md w0 g g5 τ W7 X H T T2 L E D) (hI : Inv τ W7 w' X H T2 E D') (hs : S3 T E c p g g5 X f) (hD : a.defers = []) (hV : ∀ j, j < 179 → a.tmps[j]? = some (f j))
    (hNext : ∀ (a : Act) (f : Nat → Value), a.defers = [] → (∀ j, j < 179 → a.tmps[j]? = some (f j)) → S3 T E c p g g5 X f → Q .normal a (w'.setCell ⟨g5, 3, none⟩ (.int .i64 D'.toPlace))) :
    Code.wp Try.prog (sub [1, 1, 1, 1, 1, 1, 1, 1, 0] (Try.f3.body.getD .skip)) Q a w' := by
  have hfs := fset_at
  obtain ⟨h0, h2, h3, h5, h9, h10⟩ := hs
  have HN := hide hNext
  have ht := hM.t hI
  have s3 : w'.cell? ⟨g5, 3, none⟩ = some (.int .i64 D.toPlace) := Sb.of_row ht 3 (by decide)
  have fr := row_frozen ht 3
  have HX := hide hI.sx
  clear hNext hI hM ht
  conv => arg 2; whnf
  repeat (first
    | (refine wpList_put hD hV ?hd ?_; (case hd => decide); clear hD hV; (try clear a); intro a hD hV)
    | ((first | refine wpList_plain rfl (fun K hK => ?_) | refine wpList_step (fun K hK => ?_)); go_simp; refine hK _ _ ?_; clear hK K)
    | (refine wp_cond_true ?hc ?_; (case hc => simp [Act.eval, hV, hfs]; done))
    | (refine wp_cond_false ?hc ?_; (case hc => simp [Act.eval, hV, hfs]; done))
    | go_step)
  refine (f13_to HX.out).mono ?_
  rintro e w1 ⟨rfl, hw⟩
  obtain rfl : w' = w1 := hw.symm
  clear hw
  dsimp only
  repeat (first
    | (refine wpList_put hD hV ?hd ?_; (case hd => decide); clear hD hV; (try clear a); intro a hD hV)
    | ((first | refine wpList_plain rfl (fun K hK => ?_) | refine wpList_step (fun K hK => ?_)); go_simp; refine hK _ _ ?_; clear hK K)
    | (refine wp_cond_true ?hc ?_; (case hc => simp [Act.eval, hV, hfs]; done))
    | (refine wp_cond_false ?hc ?_; (case hc => simp [Act.eval, hV, hfs]; done))
    | go_step)
  exact HN.out a _ hD hV ⟨by simp [hfs, h0], by simp [hfs, h2], by simp [hfs, h3], by simp [hfs, h5], by simp [hfs, h9], by simp [hfs, h10]⟩
set_option maxHeartbeats 1000000 in
theorem t3_9 {a : Act} {w' : World} {f : Nat → Value} (hM : Md w0 g g5 τ W7 X H T T2 L E D) (hI : Inv τ W7 w' X H T2 E D') (hs : S3 T E c p g g5 X f) (hD : a.defers = []) (hV : ∀ j, j < 179 → a.tmps[j]? = some (f j))
    (hNext : ∀ (a : Act) (f : Nat → Value) (W : World), a.defers = [] → (∀ j, j < 179 → a.tmps[j]? = some (f j)) → S3 T E c p g g5 X f → Fi w0 g g5 W T T2 E D D' → Q .normal a W) :
    Code.wp Try.prog (sub [1, 1, 1, 1, 1, 1, 1, 1, 1, 0] (Try.f3.body.getD .skip)) Q a (w'.setCell ⟨g5, 3, none⟩ (.int .i64 D'.toPlace)) := by
  have hfs := fset_at
  obtain ⟨h0, h2, h3, h5, h9, h10⟩ := hs
  have HN := hide hNext
  have ht := row_set (hM.t hI) 3 (.int .i64 D'.toPlace)
  have s3 : (w'.setCell ⟨g5, 3, none⟩ (.int .i64 D'.toPlace)).cell? ⟨g5, 18, none⟩ = some (.int .u64 (D.hash : Nat)) := by
    simp only [World.cell?, ht]
    rfl
  have fr := row_frozen ht 18
  have HX := hide (hM.sx3 hI 3 (.int .i64 D'.toPlace))
  have HF := hide (hM.fin hI)
  obtain ⟨W, hW⟩ : ∃ W, w'.setCell ⟨g5, 3, none⟩ (.int .i64 D'.toPlace) = W := ⟨_, rfl⟩
  rw [hW] at s3 fr HX HF ⊢
  clear hNext hI hM ht hW
  conv => arg 2; whnf
  repeat (first
    | (refine wpList_put hD hV ?hd ?_; (case hd => decide); clear hD hV; (try clear a); intro a hD hV)
    | ((first | refine wpList_plain rfl (fun K hK => ?_) | refine wpList_step (fun K hK => ?_)); go_simp; refine hK _ _ ?_; clear hK K)
    | (refine wp_cond_true ?hc ?_; (case hc => simp [Act.eval, hV, hfs]; done))
    | (refine wp_cond_false ?hc ?_; (case hc => simp [Act.eval, hV, hfs]; done))
    | go_step)
  refine (f14_to HX.out).mono ?_
  rintro e w1 ⟨rfl, hw⟩
  obtain rfl : W = w1 := hw.symm
  clear hw
  dsimp only
  repeat (first
    | (refine wpList_put hD hV ?hd ?_; (case hd => decide); clear hD hV; (try clear a); intro a hD hV)
    | ((first | refine wpList_plain rfl (fun K hK => ?_) | refine wpList_step (fun K hK => ?_)); go_simp; refine hK _ _ ?_; clear hK K)
    | (refine wp_cond_true ?hc ?_; (case hc => simp [Act.eval, hV, hfs]; done))
    | (refine wp_cond_false ?hc ?_; (case hc => simp [Act.eval, hV, hfs]; done))
    | go_step)
  exact HN.out a _ _ hD hV ⟨by simp [hfs, h0], by simp [hfs, h2], by simp [hfs, h3], by simp [hfs, h5], by simp [hfs, h9], by simp [hfs, h10]⟩ HF.out

/-- The operation that was taken back. -/
structure Last (E : Env) (D : Dyn) (c k i : Nat) : Prop where
  hc : c < E.nc
  nx : D.next c = (k : Int) + 1
  kl : k < E.cl c
  ch : E.ch c k = (i : Int)
  hi : i < E.n
  op : E.op c (D.next c - 1).toNat = i
  vv : 0 ≤ E.vv i ∧ E.vv i < E.nv
theorem Last.of (hH : Holds E D zmix) (hP : Prem E D (c : Int) p) : ∃ k i, Last E D c k i := by
  obtain ⟨c', hc', hc, h1, hw⟩ := hP
  obtain rfl : c = c' := by omega
  have hnx := hH.nx c hc
  have hkl : (D.next c - 1).toNat < E.cl c := by omega
  have hchr := hH.chr c hc _ hkl
  have hin : (E.ch c (D.next c - 1).toNat).toNat < E.n := by omega
  exact ⟨(D.next c - 1).toNat, (E.ch c (D.next c - 1).toNat).toNat, hc, by omega, hkl, by omega, hin, rfl, hH.vs _ hin⟩

set_option maxHeartbeats 1000000 in
theorem t3_10 {a : Act} {w : World} {f : Nat → Value} {k i : Nat} (hF : Fi w0 g g5 w T T2 E D D') (hl : Last E D c k i) (hs : S3 T E c p g g5 X f) (hD : a.defers = []) (hV : ∀ j, j < 179 → a.tmps[j]? = some (f j))
    (hNext : ∀ (a : Act) (f : Nat → Value) (q : Nat), a.defers = [] → (∀ j, j < 179 → a.tmps[j]? = some (f j)) → S3 T E c p g g5 X f → f 11 = .int .i32 (i : Nat) → Q .normal a (w.drewN q)) :
    Code.wp Try.prog (sub [1, 1, 1, 1, 1, 1, 1, 1, 1, 1, 0] (Try.f3.body.getD .skip)) Q a w := by
  have hfs := fset_at
  obtain ⟨h0, h2, h3, h5, h9, h10⟩ := hs
  have HN := hide hNext
  have s1 : w.cell? ⟨g, 1, none⟩ = some (.slice (T.A 1) E.nc (T.cap 1)) := hF.sb 1 (by decide)
  have s2 : w.cell? ⟨g, 2, none⟩ = some (.slice (T.A 2) E.nc (T.cap 2)) := hF.sb 2 (by decide)
  have hc := hl.hc
  have hkl := hl.kl
  have mcl := hF.rd.m_cl c hc
  have n1 := hF.rd.n1 (by omega)
  have d1 := hF.rd.d1 c hc
  have n2 := hF.rd.n2 (by omega)
  have d2 := hF.rd.d2 c hc
  have nch := hF.rd.cn c hc (by omega)
  have dch := hF.rd.cd c hc k hkl
  rw [hl.ch] at dch
  rw [hl.nx] at d2
  have e1 : IntKind.i64.wrap ((k : Int) + 1 - 1) = (k : Int) := by rw [wrap64 (by unfold i64; omega)]; omega
  have e1' : IntKind.i64.wrap (k : Int) = (k : Int) := wrap64 (by unfold i64; omega)
  have b1 : (c : Int) < (E.nc : Int) := by omega
  have b2 : (k : Int) < (E.cl c : Int) := by omega
  clear hNext hF hl
  conv => arg 2; whnf
  repeat (first
    | (refine wpList_put hD hV ?hd ?_; (case hd => decide); clear hD hV; (try clear a); intro a hD hV)
    | ((first | refine wpList_plain rfl (fun K hK => ?_) | refine wpList_step (fun K hK => ?_)); go_simp; refine hK _ _ ?_; clear hK K)
    | (refine wp_cond_true ?hc ?_; (case hc => simp [Act.eval, hV, hfs]; done))
    | (refine wp_cond_false ?hc ?_; (case hc => simp [Act.eval, hV, hfs]; done))
    | go_step)
  refine wp_region_quiet_lit (by kernel_rfl) (by kernel_rfl) ?_
  repeat (first
    | (refine wpQuiet_put hD hV ?hd ?_; (case hd => decide); clear hD hV; (try clear a); intro a hD hV)
    | (refine wpQuiet_step (fun K hK => ?_); go_simp; refine hK _ ?_; clear hK K))
  refine wpQuiet_nil ?_
  intro w' hw'
  obtain ⟨nq, hw''⟩ := hw'
  subst hw''
  repeat (first
    | (refine wpList_put hD hV ?hd ?_; (case hd => decide); clear hD hV; (try clear a); intro a hD hV)
    | ((first | refine wpList_plain rfl (fun K hK => ?_) | refine wpList_step (fun K hK => ?_)); go_simp; refine hK _ _ ?_; clear hK K)
    | (refine wp_cond_true ?hc ?_; (case hc => simp [Act.eval, hV, hfs]; done))
    | (refine wp_cond_false ?hc ?_; (case hc => simp [Act.eval, hV, hfs]; done))
    | go_step)
  exact HN.out a _ _ hD hV ⟨by simp [hfs, h0], by simp [hfs, h2], by simp [hfs, h3], by simp [hfs, h5], by simp [hfs, h9], by simp [hfs, h10]⟩ (by simp [hfs])
set_option maxHeartbeats 1000000 in
theorem t3_11 {a : Act} {w : World} {f : Nat → Value} {k i : Nat} (hF : Fi w0 g g5 w T T2 E D D') (hl : Last E D c k i) (hs : S3 T E c p g g5 X f) (h11 : f 11 = .int .i32 (i : Nat)) (hD : a.defers = []) (hV : ∀ j, j < 179 → a.tmps[j]? = some (f j))
    (hNext : ∀ (a : Act) (f : Nat → Value), a.defers = [] → (∀ j, j < 179 → a.tmps[j]? = some (f j)) → S3 T E c p g g5 X f → f 11 = .int .i32 (i : Nat) → f 12 = .bool (E.wr i) → Q .normal a w) :
    Code.wp Try.prog (sub [1, 1, 1, 1, 1, 1, 1, 1, 1, 1, 1, 0] (Try.f3.body.getD .skip)) Q a w := by
  have hfs := fset_at
  obtain ⟨h0, h2, h3, h5, h9, h10⟩ := hs
  have HN := hide hNext
  have hi := hl.hi
  have on := hF.rd.on (by omega)
  have o2 := hF.rd.o2 i hi
  have b3 : (i : Int) < (E.n : Int) := by omega
  clear hNext hF hl
  conv => arg 2; whnf
  repeat (first
    | (refine wpList_put hD hV ?hd ?_; (case hd => decide); clear hD hV; (try clear a); intro a hD hV)
    | ((first | refine wpList_plain rfl (fun K hK => ?_) | refine wpList_step (fun K hK => ?_)); go_simp; refine hK _ _ ?_; clear hK K)
    | (refine wp_cond_true ?hc ?_; (case hc => simp [Act.eval, hV, hfs]; done))
    | (refine wp_cond_false ?hc ?_; (case hc => simp [Act.eval, hV, hfs]; done))
    | go_step)
  exact HN.out a _ hD hV ⟨by simp [hfs, h0], by simp [hfs, h2], by simp [hfs, h3], by simp [hfs, h5], by simp [hfs, h9], by simp [hfs, h10]⟩ (by simp [hfs, h11]) (by simp [hfs])

set_option maxHeartbeats 4000000 in
theorem t3_12 {a : Act} {w : World} {f : Nat → Value} {k0 i : Nat} (hF : Fi w0 g g5 w T T2 E D D') (hn : D'.next = upd D.next c (D.next c - 1)) (hl : Last E D c k0 i) (hs : S3 T E c p g g5 X f) (h11 : f 11 = .int .i32 (i : Nat)) (h12 : f 12 = .bool (E.wr i)) (hD : a.defers = []) (hV : ∀ j, j < 179 → a.tmps[j]? = some (f j))
    (hNext : ∀ (a : Act) (f : Nat → Value) (q : Nat), a.defers = [] → (∀ j, j < 179 → a.tmps[j]? = some (f j)) → S3 T E c p g g5 X f → f 11 = .int .i32 (i : Nat) → f 12 = .bool (E.wr i) → Q .normal a (w.drewN q)) :
    Code.wp Try.prog (sub [1, 1, 1, 1, 1, 1, 1, 1, 1, 1, 1, 1, 0] (Try.f3.body.getD .skip)) Q a w := by
  have hfs := fset_at
  obtain ⟨h0, h2, h3, h5, h9, h10⟩ := hs
  have HN := hide hNext
  have HF := hide hF
  have HD := hide hn
  have mnc := hF.rd.m_c
  have hc := hl.hc
  have hnx := hl.nx
  have hkl := hl.kl
  have s2 : w.cell? ⟨g, 2, none⟩ = some (.slice (T.A 2) E.nc (T.cap 2)) := hF.sb 2 (by decide)
  have s1 : w.cell? ⟨g, 1, none⟩ = some (.slice (T.A 1) E.nc (T.cap 1)) := hF.sb 1 (by decide)
  have u1 : w.cell? ⟨g5, 1, none⟩ = some (.slice (T2.A 1) E.nc (T2.cap 1)) := Sb.of_row hF.tb 1 (by decide)
  have u2 : w.cell? ⟨g5, 2, none⟩ = some (.slice (T2.A 2) E.nc (T2.cap 2)) := Sb.of_row hF.tb 2 (by decide)
  have hk0 : k0 ≤ 1048576 := by have := hF.rd.m_cl c hc; omega
  have HNX := hide hnx
  clear hNext hF hn hl hkl hnx
  conv => arg 2; whnf
  repeat (first
    | (refine wpList_put hD hV ?hd ?_; (case hd => decide); clear hD hV; (try clear a); intro a hD hV)
    | ((first | refine wpList_plain rfl (fun K hK => ?_) | refine wpList_step (fun K hK => ?_)); go_simp; refine hK _ _ ?_; clear hK K)
    | (refine wp_cond_true ?hc ?_; (case hc => simp [Act.eval, hV, hfs]; done))
    | (refine wp_cond_false ?hc ?_; (case hc => simp [Act.eval, hV, hfs]; done))
    | go_step)
  refine wp_loop_f (N := 179) (fun m f w' => ∃ (k q : Nat), k ≤ E.nc ∧ m = E.nc - k ∧ w' = w.drewN q ∧ f 13 = .int .i64 (k : Nat) ∧ f 11 = .int .i32 (i : Nat) ∧ f 12 = .bool (E.wr i) ∧ S3 T E c p g g5 X f) E.nc hD hV
    ⟨0, 0, by omega, by omega, rfl, by simp [hfs], by simp [hfs, h11], by simp [hfs, h12], ⟨by simp [hfs, h0], by simp [hfs, h2], by simp [hfs, h3], by simp [hfs, h5], by simp [hfs, h9], by simp [hfs, h10]⟩⟩ ?_
  clear h0 h2 h3 h5 h9 h10 h11 h12 hD hV a f
  intro m f w' a hD hV ⟨k, q, hk, hm', hw, h13, h11, h12, hs⟩ K hK
  subst hw
  obtain ⟨h0, h2, h3, h5, h9, h10⟩ := hs
  have HK := hide hK
  clear hK
  by_cases hkn : k < E.nc
  · have n1 := HF.out.rd.n1 (by omega)
    have d1 := HF.out.rd.d1 k hkn
    have n2 := HF.out.rd.n2 (by omega)
    have d2 := HF.out.rd.d2 k hkn
    have m1 : T2.A 1 = some ⟨T2.b 1, T2.o 1, none⟩ := HF.out.rt.n1 (by omega)
    have c1 : w.cell? ⟨T2.b 1, T2.o 1 + k, none⟩ = some (.slice (T2.cA k) (E.cl k) (T2.cc k)) := HF.out.rt.d1 k hkn
    have m2 : T2.A 2 = some ⟨T2.b 2, T2.o 2, none⟩ := HF.out.rt.n2 (by omega)
    have c2 : w.cell? ⟨T2.b 2, T2.o 2 + k, none⟩ = some (.int .i64 (D'.next k)) := HF.out.rt.d2 k hkn
    rw [HD.out] at c2
    have e4 : IntKind.i64.wrap ((k : Int) + 1) = (k : Int) + 1 := wrap64 (by unfold i64; omega)
    have H15 : Hid (∀ n, Calls Try.prog 15 #[.slice (T2.cA k) (E.cl k) (T2.cc k), .slice (T.cA k) (E.cl k) (T.cc k)] (w.drewN n) fun e w' => e = .returned (.bool true) ∧ ∃ j, w' = (w.drewN n).drewN j) := fun n =>
      f15_to (T2.cA k) (T.cA k) (T2.cb k) (T2.co k) (T.cb k) (T.co k) (T2.cc k) (T.cc k) (E.cl k) (E.ch k) (w.drewN n) (HF.out.rd.m_cl k hkn) (HF.out.rt.cn k hkn) (HF.out.rd.cn k hkn) (HF.out.rt.cd k hkn) (HF.out.rd.cd k hkn)
    by_cases hkc : k = c
    · subst hkc
      have ec : upd D.next k (D.next k - 1) k = (k0 : Int) := by unfold upd; rw [if_pos rfl, HNX.out]; omega
      have ed : D.next k = (k0 : Int) + 1 := HNX.out
      rw [ec] at c2
      rw [ed] at d2
      have e5 : IntKind.i64.wrap ((k0 : Int) + 1 - 1) = (k0 : Int) := by rw [wrap64 (by unfold i64; omega)]; omega
      have e5' : IntKind.i64.wrap (k0 : Int) = (k0 : Int) := wrap64 (by unfold i64; omega)
      clear ec ed
      repeat (first
        | (refine wpList_put hD hV ?hd ?_; (case hd => decide); clear hD hV; (try clear a); intro a hD hV)
        | ((first | refine wpList_plain rfl (fun K hK => ?_) | refine wpList_step (fun K hK => ?_)); go_simp; refine hK _ _ ?_; clear hK K)
        | (refine wp_cond_true ?hc ?_; (case hc => simp [Act.eval, hV, hfs]; done))
        | (refine wp_cond_false ?hc ?_; (case hc => simp [Act.eval, hV, hfs]; done))
        | go_step)
      refine wp_region_quiet_lit (by kernel_rfl) (by kernel_rfl) ?_
      repeat (first
        | (refine wpQuiet_put hD hV ?hd ?_; (case hd => decide); clear hD hV; (try clear a); intro a hD hV)
        | (refine wpQuiet_step (fun K hK => ?_); go_simp; refine hK _ ?_; clear hK K))
      refine wpQuiet_step (fun K hK => ?_)
      go_simp
      refine ⟨.bool true, fun n => (H15.out (q + n)).mono (fun e w' ⟨h1, j, h2⟩ => ⟨h1, n + j, h2.trans (by rw [World.drewN_drewN, Nat.add_assoc])⟩), hK _ ?_⟩
      clear hK K
      repeat (first
        | (refine wpQuiet_put hD hV ?hd ?_; (case hd => decide); clear hD hV; (try clear a); intro a hD hV)
        | (refine wpQuiet_step (fun K hK => ?_); go_simp; refine hK _ ?_; clear hK K))
      refine wpQuiet_nil ?_
      intro w' hw'
      obtain ⟨nq, hw''⟩ := hw'
      subst hw''
      repeat (first
        | (refine wpList_put hD hV ?hd ?_; (case hd => decide); clear hD hV; (try clear a); intro a hD hV)
        | ((first | refine wpList_plain rfl (fun K hK => ?_) | refine wpList_step (fun K hK => ?_)); go_simp; refine hK _ _ ?_; clear hK K)
        | (refine wp_cond_true ?hc ?_; (case hc => simp [Act.eval, hV, hfs]; done))
        | (refine wp_cond_false ?hc ?_; (case hc => simp [Act.eval, hV, hfs]; done))
        | go_step)
      exact HK.out a _ _ (E.nc - (k + 1)) hD hV (by omega) ⟨k + 1, _, by omega, rfl, rfl, by simp [hfs], by simp [hfs, h11], by simp [hfs, h12], ⟨by simp [hfs, h0], by simp [hfs, h2], by simp [hfs, h3], by simp [hfs, h5], by simp [hfs, h9], by simp [hfs, h10]⟩⟩
    · have q1 : ((k : Int) == (c : Int)) = false := by simp; omega
      have ec : upd D.next c (D.next c - 1) k = D.next k := by unfold upd; rw [if_neg hkc]
      rw [ec] at c2
      clear ec
      repeat (first
        | (refine wpList_put hD hV ?hd ?_; (case hd => decide); clear hD hV; (try clear a); intro a hD hV)
        | ((first | refine wpList_plain rfl (fun K hK => ?_) | refine wpList_step (fun K hK => ?_)); go_simp; refine hK _ _ ?_; clear hK K)
        | (refine wp_cond_true ?hc ?_; (case hc => simp [Act.eval, hV, hfs]; done))
        | (refine wp_cond_false ?hc ?_; (case hc => simp [Act.eval, hV, hfs]; done))
        | go_step)
      refine wp_region_quiet_lit (by kernel_rfl) (by kernel_rfl) ?_
      repeat (first
        | (refine wpQuiet_put hD hV ?hd ?_; (case hd => decide); clear hD hV; (try clear a); intro a hD hV)
        | (refine wpQuiet_step (fun K hK => ?_); go_simp; refine hK _ ?_; clear hK K))
      refine wpQuiet_step (fun K hK => ?_)
      go_simp
      refine ⟨.bool true, fun n => (H15.out (q + n)).mono (fun e w' ⟨h1, j, h2⟩ => ⟨h1, n + j, h2.trans (by rw [World.drewN_drewN, Nat.add_assoc])⟩), hK _ ?_⟩
      clear hK K
      repeat (first
        | (refine wpQuiet_put hD hV ?hd ?_; (case hd => decide); clear hD hV; (try clear a); intro a hD hV)
        | (refine wpQuiet_step (fun K hK => ?_); go_simp; refine hK _ ?_; clear hK K))
      refine wpQuiet_nil ?_
      intro w' hw'
      obtain ⟨nq, hw''⟩ := hw'
      subst hw''
      repeat (first
        | (refine wpList_put hD hV ?hd ?_; (case hd => decide); clear hD hV; (try clear a); intro a hD hV)
        | ((first | refine wpList_plain rfl (fun K hK => ?_) | refine wpList_step (fun K hK => ?_)); go_simp; refine hK _ _ ?_; clear hK K)
        | (refine wp_cond_true ?hc ?_; (case hc => simp [Act.eval, hV, hfs]; done))
        | (refine wp_cond_false ?hc ?_; (case hc => simp [Act.eval, hV, hfs]; done))
        | go_step)
      exact HK.out a _ _ (E.nc - (k + 1)) hD hV (by omega) ⟨k + 1, _, by omega, rfl, rfl, by simp [hfs], by simp [hfs, h11], by simp [hfs, h12], ⟨by simp [hfs, h0], by simp [hfs, h2], by simp [hfs, h3], by simp [hfs, h5], by simp [hfs, h9], by simp [hfs, h10]⟩⟩
  · repeat (first
      | (refine wpList_put hD hV ?hd ?_; (case hd => decide); clear hD hV; (try clear a); intro a hD hV)
      | ((first | refine wpList_plain rfl (fun K hK => ?_) | refine wpList_step (fun K hK => ?_)); go_simp; refine hK _ _ ?_; clear hK K)
      | (refine wp_cond_true ?hc ?_; (case hc => simp [Act.eval, hV, hfs]; done))
      | (refine wp_cond_false ?hc ?_; (case hc => simp [Act.eval, hV, hfs]; done))
      | go_step)
    exact HN.out a _ _ hD hV ⟨by simp [hfs, h0], by simp [hfs, h2], by simp [hfs, h3], by simp [hfs, h5], by simp [hfs, h9], by simp [hfs, h10]⟩ (by simp [hfs, h11]) (by simp [hfs, h12])

set_option maxHeartbeats 4000000 in
theorem t3_13 {a : Act} {w : World} {f : Nat → Value} {k0 i : Nat} (hF : Fi w0 g g5 w T T2 E D D') (hn : D'.current = if E.wr i then upd D.current (E.vv i).toNat p else D.current) (hl : Last E D c k0 i) (hs : S3 T E c p g g5 X f) (h11 : f 11 = .int .i32 (i : Nat)) (h12 : f 12 = .bool (E.wr i)) (hD : a.defers = []) (hV : ∀ j, j < 179 → a.tmps[j]? = some (f j))
    (hNext : ∀ (a : Act) (f : Nat → Value) (q : Nat), a.defers = [] → (∀ j, j < 179 → a.tmps[j]? = some (f j)) → S3 T E c p g g5 X f → Q .normal a (w.drewN q)) :
    Code.wp Try.prog (sub [1, 1, 1, 1, 1, 1, 1, 1, 1, 1, 1, 1, 1, 0] (Try.f3.body.getD .skip)) Q a w := by
  have hfs := fset_at
  obtain ⟨h0, h2, h3, h5, h9, h10⟩ := hs
  have HN := hide hNext
  have HF := hide hF
  have mnv := hF.rd.m_v
  have hi := hl.hi
  obtain ⟨vi, hvi⟩ := Int.eq_ofNat_of_zero_le hl.vv.1
  have hvn : vi < E.nv := by have := hl.vv.2; omega
  have on := hF.rd.on (by omega)
  have o3 := hF.rd.o3 i hi
  rw [hvi] at o3
  have b3 : (i : Int) < (E.n : Int) := by omega
  have e6 : IntKind.i64.wrap ((vi : Nat) : Int) = (vi : Int) := wrap64 (by unfold i64; omega)
  have hn' : D'.current = if E.wr i then upd D.current vi p else D.current := by rw [hn, hvi]; rfl
  have HD := hide hn'
  have s5 : w.cell? ⟨g, 5, none⟩ = some (.slice (T.A 5) E.nv (T.cap 5)) := hF.sb 5 (by decide)
  have u5 : w.cell? ⟨g5, 5, none⟩ = some (.slice (T2.A 5) E.nv (T2.cap 5)) := Sb.of_row hF.tb 5 (by decide)
  clear hNext hF hn hl hn' hvi
  conv => arg 2; whnf
  repeat (first
    | (refine wpList_put hD hV ?hd ?_; (case hd => decide); clear hD hV; (try clear a); intro a hD hV)
    | ((first | refine wpList_plain rfl (fun K hK => ?_) | refine wpList_step (fun K hK => ?_)); go_simp; refine hK _ _ ?_; clear hK K)
    | (refine wp_cond_true ?hc ?_; (case hc => simp [Act.eval, hV, hfs]; done))
    | (refine wp_cond_false ?hc ?_; (case hc => simp [Act.eval, hV, hfs]; done))
    | go_step)
  refine wp_loop_f (N := 179) (fun m f w' => ∃ (k q : Nat), k ≤ E.nv ∧ m = E.nv - k ∧ w' = w.drewN q ∧ f 15 = .int .i64 (k : Nat) ∧ f 11 = .int .i32 (i : Nat) ∧ f 12 = .bool (E.wr i) ∧ S3 T E c p g g5 X f) E.nv hD hV
    ⟨0, 0, by omega, by omega, rfl, by simp [hfs], by simp [hfs, h11], by simp [hfs, h12], ⟨by simp [hfs, h0], by simp [hfs, h2], by simp [hfs, h3], by simp [hfs, h5], by simp [hfs, h9], by simp [hfs, h10]⟩⟩ ?_
  clear h0 h2 h3 h5 h9 h10 h11 h12 hD hV a f
  intro m f w' a hD hV ⟨k, q, hk, hm', hw, h15, h11, h12, hs⟩ K hK
  subst hw
  obtain ⟨h0, h2, h3, h5, h9, h10⟩ := hs
  have HK := hide hK
  clear hK
  by_cases hkn : k < E.nv
  · have n5 := HF.out.rd.n5 (by omega)
    have d5 := HF.out.rd.d5 k hkn
    have m5 : T2.A 5 = some ⟨T2.b 5, T2.o 5, none⟩ := HF.out.rt.n5 (by omega)
    have c5 : w.cell? ⟨T2.b 5, T2.o 5 + k, none⟩ = some (.int .i32 (D'.current k)) := HF.out.rt.d5 k hkn
    rw [HD.out] at c5
    have e4 : IntKind.i64.wrap ((k : Int) + 1) = (k : Int) + 1 := wrap64 (by unfold i64; omega)
    cases qw : E.wr i
    case false =>
      rw [qw] at c5 h12
      rw [if_neg (by simp)] at c5
      repeat (first
        | (refine wpList_put hD hV ?hd ?_; (case hd => decide); clear hD hV; (try clear a); intro a hD hV)
        | ((first | refine wpList_plain rfl (fun K hK => ?_) | refine wpList_step (fun K hK => ?_)); go_simp; refine hK _ _ ?_; clear hK K)
        | (refine wp_cond_true ?hc ?_; (case hc => simp [Act.eval, hV, hfs]; done))
        | (refine wp_cond_false ?hc ?_; (case hc => simp [Act.eval, hV, hfs]; done))
        | go_step)
      exact HK.out a _ _ (E.nv - (k + 1)) hD hV (by omega) ⟨k + 1, _, by omega, rfl, rfl, by simp [hfs], by simp [hfs, h11], by simp [hfs, h12, qw], ⟨by simp [hfs, h0], by simp [hfs, h2], by simp [hfs, h3], by simp [hfs, h5], by simp [hfs, h9], by simp [hfs, h10]⟩⟩
    case true =>
      rw [qw] at c5 h12
      rw [if_pos rfl] at c5
      by_cases hkc : k = vi
      · subst hkc
        have ec : upd D.current k p k = p := by unfold upd; rw [if_pos rfl]
        rw [ec] at c5
        clear ec
        repeat (first
          | (refine wpList_put hD hV ?hd ?_; (case hd => decide); clear hD hV; (try clear a); intro a hD hV)
          | ((first | refine wpList_plain rfl (fun K hK => ?_) | refine wpList_step (fun K hK => ?_)); go_simp; refine hK _ _ ?_; clear hK K)
          | (refine wp_cond_true ?hc ?_; (case hc => simp [Act.eval, hV, hfs]; done))
          | (refine wp_cond_false ?hc ?_; (case hc => simp [Act.eval, hV, hfs]; done))
          | go_step)
        exact HK.out a _ _ (E.nv - (k + 1)) hD hV (by omega) ⟨k + 1, _, by omega, rfl, rfl, by simp [hfs], by simp [hfs, h11], by simp [hfs, h12, qw], ⟨by simp [hfs, h0], by simp [hfs, h2], by simp [hfs, h3], by simp [hfs, h5], by simp [hfs, h9], by simp [hfs, h10]⟩⟩
      · have q1 : ((vi : Int) == (k : Int)) = false := by simp; omega
        have ec : upd D.current vi p k = D.current k := by unfold upd; rw [if_neg hkc]
        rw [ec] at c5
        clear ec
        repeat (first
          | (refine wpList_put hD hV ?hd ?_; (case hd => decide); clear hD hV; (try clear a); intro a hD hV)
          | ((first | refine wpList_plain rfl (fun K hK => ?_) | refine wpList_step (fun K hK => ?_)); go_simp; refine hK _ _ ?_; clear hK K)
          | (refine wp_cond_true ?hc ?_; (case hc => simp [Act.eval, hV, hfs]; done))
          | (refine wp_cond_false ?hc ?_; (case hc => simp [Act.eval, hV, hfs]; done))
          | go_step)
        exact HK.out a _ _ (E.nv - (k + 1)) hD hV (by omega) ⟨k + 1, _, by omega, rfl, rfl, by simp [hfs], by simp [hfs, h11], by simp [hfs, h12, qw], ⟨by simp [hfs, h0], by simp [hfs, h2], by simp [hfs, h3], by simp [hfs, h5], by simp [hfs, h9], by simp [hfs, h10]⟩⟩
  · repeat (first
      | (refine wpList_put hD hV ?hd ?_; (case hd => decide); clear hD hV; (try clear a); intro a hD hV)
      | ((first | refine wpList_plain rfl (fun K hK => ?_) | refine wpList_step (fun K hK => ?_)); go_simp; refine hK _ _ ?_; clear hK K)
      | (refine wp_cond_true ?hc ?_; (case hc => simp [Act.eval, hV, hfs]; done))
      | (refine wp_cond_false ?hc ?_; (case hc => simp [Act.eval, hV, hfs]; done))
      | go_step)
    exact HN.out a _ _ hD hV ⟨by simp [hfs, h0], by simp [hfs, h2], by simp [hfs, h3], by simp [hfs, h5], by simp [hfs, h9], by simp [hfs, h10]⟩
set_option maxHeartbeats 1000000 in
/-- The last call. -/
theorem t3_14 {a : Act} {w : World} {f : Nat → Value} (hF : Fi w0 g g5 w T T2 E D D') (hs : S3 T E c p g g5 X f) (hD : a.defers = []) (hV : ∀ j, j < 179 → a.tmps[j]? = some (f j))
    (hEnd : ∀ (a : Act) (f : Nat → Value) (w' : World), a.defers = [] → (∀ j, j < 179 → a.tmps[j]? = some (f j)) → f 8 = .bool true → Below w0.heap.size w0 w' → Q .ret a w') :
    Code.wp Try.prog (sub [1, 1, 1, 1, 1, 1, 1, 1, 1, 1, 1, 1, 1, 1] (Try.f3.body.getD .skip)) Q a w := by
  have hfs := fset_at
  obtain ⟨h0, h2, h3, h5, h9, h10⟩ := hs
  have HN := hide hEnd
  have H7 := hide hF.call
  have htb := hF.tb
  have hsz : (Try.prog.info? 30).map (·.size) = some (sval T2 E D').size := Try.info30'
  generalize sval T2 E D' = V2 at H7 htb hsz
  have HT := hide htb
  have HS := hide hsz
  clear hEnd hF htb hsz
  conv => arg 2; whnf
  repeat (first
    | (refine wpList_put hD hV ?hd ?_; (case hd => decide); clear hD hV; (try clear a); intro a hD hV)
    | (refine wpList_load_row rfl 30 _ rfl g5 (by simp [Act.eval, hV, hfs, h9]) 30 V2 (0, 0) _ HT.out Try.underlying30 rfl HS.out ?_; show wpList _ _ _ _ ⟨a.tmps.setIfInBounds 177 (.agg V2), a.defers⟩ _; rw [hD])
    | ((first | refine wpList_plain rfl (fun K hK => ?_) | refine wpList_step (fun K hK => ?_)); go_simp; refine hK _ _ ?_; clear hK K)
    | go_step)
  refine H7.out.mono ?_
  rintro e w1 ⟨rfl, hb1⟩
  have HB := hide hb1
  clear hb1
  dsimp only
  repeat (first
    | (refine wpList_put hD hV ?hd ?_; (case hd => decide); clear hD hV; (try clear a); intro a hD hV)
    | ((first | refine wpList_plain rfl (fun K hK => ?_) | refine wpList_step (fun K hK => ?_)); go_simp; refine hK _ _ ?_; clear hK K)
    | (refine wp_cond_true ?hc ?_; (case hc => simp [Act.eval, hV, hfs]; done))
    | (refine wp_cond_false ?hc ?_; (case hc => simp [Act.eval, hV, hfs]; done))
    | go_step)
  exact HN.out a _ _ hD hV (by simp [hfs]) HB.out

end
end Go.Proofs.Qxb6616080a
