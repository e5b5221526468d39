import Derived.Test.Qxb6616080aF18
import Derived.Test.Qxb6616080aF7b
namespace Go.Proofs.Qxb6616080a
open Go.RowKit
set_option linter.unusedVariables false
set_option linter.unusedSimpArgs false
set_option maxRecDepth 100000

section
variable {Q : Exit → Act → World → Prop} {W : World} {T : Ad} {E : Env} {D : Dyn} {B S : Nat}

set_option maxHeartbeats 1000000 in
/-- The entry: the struct boxed, the lengths taken and held against each other. -/
theorem st0 {a : Act} {w : World} {f : Nat → Value} (h0 : f 0 = .slice T.oA E.n T.oc) (h1 : f 1 = .agg (sval T E D)) (hD : a.defers = []) (hV : ∀ j, j < 864 → a.tmps[j]? = some (f j))
    (hNext : ∀ (a : Act) (f : Nat → Value), a.defers = [] → (∀ j, j < 864 → a.tmps[j]? = some (f j)) → f 0 = .slice T.oA E.n T.oc → f 3 = .pointer (some ⟨w.heap.size, 0, none⟩) → Q .normal a (w.alloc (.cells (sval T E D) 30))) :
    Code.wp Try.prog (sub [0] (Try.f7.body.getD .skip)) Q a w := by
  have hfs := fset_at
  have HN := hide hNext
  have hbox : (Instr.box 30 (.agg (sval T E D))).run Try.prog w = .ok (.pointer (some ⟨w.heap.size, 0, none⟩)) (w.alloc (.cells (sval T E D) 30)) := by
    unfold sval
    simp [go_sem]
  clear hNext
  conv => arg 2; whnf
  repeat (first
    | (refine wpList_put hD hV ?hd ?_; (case hd => decide); clear hD hV; (try clear a); intro a hD hV)
    | ((first | refine wpList_plain rfl (fun K hK => ?_) | refine wpList_step (fun K hK => ?_)); go_simp; refine hK _ _ ?_; clear hK K)
    | (refine wp_cond_true ?hc ?_; (case hc => simp [Act.eval, hV, hfs]; done))
    | (refine wp_cond_false ?hc ?_; (case hc => simp [Act.eval, hV, hfs]; done))
    | go_step)
  exact HN.out a _ hD hV (by simp [hfs, h0]) (by simp [hfs])

set_option maxHeartbeats 4000000 in
theorem st1 {a : Act} {w : World} {f : Nat → Value} (hS : Sb w S T E D) (h0 : f 0 = .slice T.oA E.n T.oc) (h3 : f 3 = .pointer (some ⟨S, 0, none⟩)) (hD : a.defers = []) (hV : ∀ j, j < 864 → a.tmps[j]? = some (f j))
    (hNext : ∀ (a : Act) (f : Nat → Value), a.defers = [] → (∀ j, j < 864 → a.tmps[j]? = some (f j)) → Bs T E S f → Code.wp Try.prog (sub [1, 1, 1, 1, 1] (Try.f7.body.getD .skip)) Q a w) :
    Code.wp Try.prog (sub [1] (Try.f7.body.getD .skip)) Q a w := by
  have hfs := fset_at
  have HN := hide hNext
  have s1 : w.cell? ⟨S, 1, none⟩ = some (.slice (T.A 1) E.nc (T.cap 1)) := hS 1 (by decide)
  have s2 : w.cell? ⟨S, 2, none⟩ = some (.slice (T.A 2) E.nc (T.cap 2)) := hS 2 (by decide)
  have s4 : w.cell? ⟨S, 4, none⟩ = some (.slice (T.A 4) E.n (T.cap 4)) := hS 4 (by decide)
  have s5 : w.cell? ⟨S, 5, none⟩ = some (.slice (T.A 5) E.nv (T.cap 5)) := hS 5 (by decide)
  have s6 : w.cell? ⟨S, 6, none⟩ = some (.slice (T.A 6) E.n (T.cap 6)) := hS 6 (by decide)
  have s7 : w.cell? ⟨S, 7, none⟩ = some (.slice (T.A 7) E.n (T.cap 7)) := hS 7 (by decide)
  have s8 : w.cell? ⟨S, 8, none⟩ = some (.slice (T.A 8) E.nv (T.cap 8)) := hS 8 (by decide)
  have s9 : w.cell? ⟨S, 9, none⟩ = some (.slice (T.A 9) E.nv (T.cap 9)) := hS 9 (by decide)
  have s10 : w.cell? ⟨S, 10, none⟩ = some (.slice (T.A 10) E.n (T.cap 10)) := hS 10 (by decide)
  have s11 : w.cell? ⟨S, 11, none⟩ = some (.slice (T.A 11) E.nv (T.cap 11)) := hS 11 (by decide)
  have s12 : w.cell? ⟨S, 12, none⟩ = some (.slice (T.A 12) E.nv (T.cap 12)) := hS 12 (by decide)
  have s13 : w.cell? ⟨S, 13, none⟩ = some (.slice (T.A 13) E.nc (T.cap 13)) := hS 13 (by decide)
  have s14 : w.cell? ⟨S, 14, none⟩ = some (.slice (T.A 14) E.nc (T.cap 14)) := hS 14 (by decide)
  have s15 : w.cell? ⟨S, 15, none⟩ = some (.slice (T.A 15) E.nc (T.cap 15)) := hS 15 (by decide)
  clear hNext hS
  obtain ⟨c5, hc5⟩ : ∃ c, sub [1, 1, 1, 1, 1] (Try.f7.body.getD .skip) = c := ⟨_, rfl⟩
  have e : sub [1] (Try.f7.body.getD .skip) = .seq (sub [1, 0] (Try.f7.body.getD .skip)) (.seq (sub [1, 1, 0] (Try.f7.body.getD .skip)) (.seq (sub [1, 1, 1, 0] (Try.f7.body.getD .skip)) (.seq (sub [1, 1, 1, 1, 0] (Try.f7.body.getD .skip)) c5))) := by rw [← hc5]; kernel_rfl
  rw [e]
  rw [hc5] at HN
  clear e hc5
  refine wp_seq_k (fun K1 hK1 => ?_)
  conv => arg 2; whnf
  repeat (first
    | (refine wpList_put hD hV ?hd ?_; (case hd => decide); clear hD hV; (try clear a); intro a hD hV)
    | ((first | refine wpList_plain rfl (fun K hK => ?_) | refine wpList_step (fun K hK => ?_)); go_simp; refine hK _ _ ?_; clear hK K)
    | (refine wp_cond_true ?hc ?_; (case hc => simp [Act.eval, hV, hfs]; done))
    | (refine wp_cond_false ?hc ?_; (case hc => simp [Act.eval, hV, hfs]; done))
    | go_step)
  conv => arg 2; whnf
  repeat (first
    | (refine wpList_put hD hV ?hd ?_; (case hd => decide); clear hD hV; (try clear a); intro a hD hV)
    | ((first | refine wpList_plain rfl (fun K hK => ?_) | refine wpList_step (fun K hK => ?_)); go_simp; refine hK _ _ ?_; clear hK K)
    | (refine wp_cond_true ?hc ?_; (case hc => simp [Act.eval, hV, hfs]; done))
    | (refine wp_cond_false ?hc ?_; (case hc => simp [Act.eval, hV, hfs]; done))
    | go_step)
  conv => arg 2; whnf
  repeat (first
    | (refine wpList_put hD hV ?hd ?_; (case hd => decide); clear hD hV; (try clear a); intro a hD hV)
    | ((first | refine wpList_plain rfl (fun K hK => ?_) | refine wpList_step (fun K hK => ?_)); go_simp; refine hK _ _ ?_; clear hK K)
    | (refine wp_cond_true ?hc ?_; (case hc => simp [Act.eval, hV, hfs]; done))
    | (refine wp_cond_false ?hc ?_; (case hc => simp [Act.eval, hV, hfs]; done))
    | go_step)
  conv => arg 2; whnf
  repeat (first
    | (refine wpList_put hD hV ?hd ?_; (case hd => decide); clear hD hV; (try clear a); intro a hD hV)
    | ((first | refine wpList_plain rfl (fun K hK => ?_) | refine wpList_step (fun K hK => ?_)); go_simp; refine hK _ _ ?_; clear hK K)
    | (refine wp_cond_true ?hc ?_; (case hc => simp [Act.eval, hV, hfs]; done))
    | (refine wp_cond_false ?hc ?_; (case hc => simp [Act.eval, hV, hfs]; done))
    | go_step)
  exact HN.out a _ hD hV ⟨by simp [hfs, h0], by simp [hfs, h3], by simp [hfs], by simp [hfs], by simp [hfs]⟩

set_option maxHeartbeats 1000000 in
theorem st35 {a : Act} {w : World} {f : Nat → Value} (hR : Rd W B T E D) (hS : Sb W S T E D) (hSB : S < B) (hW : Below B W w) (hB : B ≤ w.heap.size) (hb : Bs T E S f) (hcu : ∀ v, v < E.nv → -1 ≤ D.current v ∧ D.current v < 4096) (hD : a.defers = []) (hV : ∀ j, j < 864 → a.tmps[j]? = some (f j))
    (hEnd : ∀ (a : Act) (f : Nat → Value) (w' : World) (r : Bool), a.defers = [] → (∀ j, j < 864 → a.tmps[j]? = some (f j)) → f 4 = .bool r → Below B W w' → (r = true ↔ D.hash = hashOf zmix E.n E.nv E.seed D.placed D.current) → Q .ret a w') :
    Code.wp Try.prog (sub [1, 1, 1, 1, 1, 1, 1, 1, 1, 1, 1, 1, 1, 1, 1, 1, 1, 1, 1, 1, 1, 1, 1, 1, 1, 1, 1, 1, 1, 1, 1, 1, 1, 1, 1] (Try.f7.body.getD .skip)) Q a w := by
  have hfs := fset_at
  obtain ⟨h0, h3, h5, h6, h7⟩ := hb
  have HN := hide hEnd
  have HW := hide hW
  have HC := hide hcu
  have HRw := hide (hR.below hW)
  have hSw := hS.below hW hSB
  have s4 : w.cell? ⟨S, 4, none⟩ = some (.slice (T.A 4) E.n (T.cap 4)) := hSw 4 (by decide)
  have s5 : w.cell? ⟨S, 5, none⟩ = some (.slice (T.A 5) E.nv (T.cap 5)) := hSw 5 (by decide)
  have s17 : w.cell? ⟨S, 17, none⟩ = some (.int .u64 (E.seed : Nat)) := hSw 17 (by decide)
  have s18 : w.cell? ⟨S, 18, none⟩ = some (.int .u64 (D.hash : Nat)) := hSw 18 (by decide)
  obtain ⟨H, hH⟩ : ∃ H, hashOf zmix E.n E.nv E.seed D.placed D.current = H := ⟨_, rfl⟩
  rw [hH] at HN
  have HH := hide hH
  clear hEnd hW hR hS hcu hSw hH
  conv => arg 2; whnf
  repeat (first
    | (refine wpList_put hD hV ?hd ?_; (case hd => decide); clear hD hV; (try clear a); intro a hD hV)
    | ((first | refine wpList_plain rfl (fun K hK => ?_) | refine wpList_step (fun K hK => ?_)); go_simp; refine hK _ _ ?_; clear hK K)
    | (refine wp_cond_true ?hc ?_; (case hc => simp [Act.eval, hV, hfs]; done))
    | (refine wp_cond_false ?hc ?_; (case hc => simp [Act.eval, hV, hfs]; done))
    | go_step)
  refine wp_region_quiet_lit (by kernel_rfl) (by kernel_rfl) ?_
  repeat (first
    | (refine wpQuiet_put hD hV ?hd ?_; (case hd => decide); clear hD hV; (try clear a); intro a hD hV)
    | (refine wpQuiet_step (fun K hK => ?_); go_simp; refine hK _ ?_; clear hK K))
  refine wpQuiet_step (fun K hK => ?_)
  go_simp
  refine ⟨.int .u64 (H : Nat), fun n => ?_, hK _ ?_⟩
  · have := f18_to (T.A 4) (T.A 5) (T.b 4) (T.o 4) (T.cap 4) (T.b 5) (T.o 5) (T.cap 5) E.n E.nv E.seed D.placed D.current (w.drewN n) HRw.out.m_n HRw.out.m_v HRw.out.r_seed HRw.out.n4 HRw.out.d4 HRw.out.n5 HRw.out.d5 HC.out
    rw [HH.out] at this
    exact Calls.quiet_of_same this
  clear hK K
  repeat (first
    | (refine wpQuiet_put hD hV ?hd ?_; (case hd => decide); clear hD hV; (try clear a); intro a hD hV)
    | (refine wpQuiet_step (fun K hK => ?_); go_simp; refine hK _ ?_; clear hK K))
  refine wpQuiet_nil ?_
  intro w' hw'
  obtain ⟨nq, hw''⟩ := hw'
  subst hw''
  repeat (first
    | (refine wpList_put hD hV ?hd ?_; (case hd => decide); clear hD hV; (try clear a); intro a hD hV)
    | ((first | refine wpList_plain rfl (fun K hK => ?_) | refine wpList_step (fun K hK => ?_)); go_simp; refine hK _ _ ?_; clear hK K)
    | (refine wp_cond_true ?hc ?_; (case hc => simp [Act.eval, hV, hfs]; done))
    | (refine wp_cond_false ?hc ?_; (case hc => simp [Act.eval, hV, hfs]; done))
    | go_step)
  exact HN.out a _ _ ((D.hash : Int) == (H : Int)) hD hV (by simp [hfs]) (bdrewN HW.out _) (by simp; omega)
end
end Go.Proofs.Qxb6616080a
