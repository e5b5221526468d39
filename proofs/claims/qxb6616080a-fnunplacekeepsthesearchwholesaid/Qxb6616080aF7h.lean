import Derived.Test.Qxb6616080aF7d
namespace Go.Proofs.Qxb6616080a
open Go.RowKit
set_option linter.unusedVariables false
set_option linter.unusedSimpArgs false
set_option maxRecDepth 100000

theorem fpres {f0 g : Nat → Value} {n d : Nat} {v : Value} (hd : n ≤ d) (h : ∀ s, s < n → g s = f0 s) : ∀ s, s < n → fset g d v s = f0 s := fun s hs => by rw [fset_ne _ _ (by omega)]; exact h s hs

section
variable {Q : Exit → Act → World → Prop} {W : World} {T : Ad} {E : Env} {D : Dyn} {B S : Nat} {mix : Nat → Nat}

theorem opEq (hchr : ∀ c, c < E.nc → ∀ k, k < E.cl c → 0 ≤ E.ch c k ∧ E.ch c k < E.n) {c k : Nat} (hc : c < E.nc) (hk : k < E.cl c) : E.ch c k = (E.op c k : Int) ∧ E.op c k < E.n := by
  have := hchr c hc k hk
  unfold Env.op
  omega

set_option maxHeartbeats 1000000 in
/-- Is a later write of the variable in the chain? -/
theorem lastLoop {a : Act} {w : World} {f0 : Nat → Value} {c k i : Nat} (hR : Rd w B T E D) (hchr : ∀ c, c < E.nc → ∀ k, k < E.cl c → 0 ≤ E.ch c k ∧ E.ch c k < E.n) (hc : c < E.nc) (hk : k < E.cl c) (hi : i < E.n)
    (h0 : f0 0 = .slice T.oA E.n T.oc) (h30 : f0 30 = .slice (T.cA c) (E.cl c) (T.cc c)) (h32 : f0 32 = .int .i32 (i : Nat)) (h33 : f0 33 = .bool true) (h34 : f0 34 = .int .i64 ((k : Int) + 1))
    (hD : a.defers = []) (hV : ∀ j, j < 864 → a.tmps[j]? = some (f0 j))
    (hNext : ∀ (a : Act) (f : Nat → Value) (q : Nat) (L : Bool), a.defers = [] → (∀ j, j < 864 → a.tmps[j]? = some (f j)) → (∀ s, s < 33 → f s = f0 s) → f 33 = .bool L → (L = true ↔ ∀ j, k < j → j < E.cl c → E.wr (E.op c j) = true → E.vv (E.op c j) ≠ E.vv i) → Q (.exit 22) a (w.drewN q)) :
    Code.wp Try.prog (sub [1, 1, 1, 1, 1, 1, 1, 1, 1, 1, 1, 1, 1, 1, 1, 1, 1, 1, 1, 1, 1, 1, 1, 0, 1, 0, 0, 1, 0, 0, 1, 1, 0, 0, 1, 0, 0, 1, 1, 1, 0, 1, 0] (Try.f7.body.getD .skip)) Q a w := by
  have hfs := fset_at
  have HN := hide hNext
  have HR := hide hR
  have HC := hide hchr
  have hml := hR.m_cl c hc
  clear hNext hR hchr
  conv => arg 2; whnf
  refine wp_loop_f (N := 864) (fun m f w' => ∃ (j q : Nat), k < j ∧ j ≤ E.cl c ∧ m = E.cl c - j ∧ w' = w.drewN q ∧ f 34 = .int .i64 (j : Nat) ∧ f 33 = .bool true ∧ (∀ s, s < 33 → f s = f0 s) ∧
    (∀ j', k < j' → j' < j → E.wr (E.op c j') = true → E.vv (E.op c j') ≠ E.vv i)) (E.cl c - (k + 1)) hD hV
    ⟨k + 1, 0, by omega, by omega, rfl, rfl, by simp [h34], h33, fun _ _ => rfl, fun _ h1 h2 => by omega⟩ ?_
  clear h33 h34 hD hV a
  intro m f w' a hD hV ⟨j, q, hj, hjl, hm', hw, h34, h33, hpre, hI⟩ K hK
  subst hw
  have p0 := (hpre 0 (by omega)).trans h0
  have p30 := (hpre 30 (by omega)).trans h30
  have p32 := (hpre 32 (by omega)).trans h32
  have HK := hide hK
  have HI := hide hI
  have HP := hide hpre
  clear hK hI hpre
  by_cases hjn : j < E.cl c
  · have on := HR.out.on (by omega)
    have cn := HR.out.cn c hc (by omega)
    obtain ⟨x, hx⟩ : ∃ x, E.op c j = x := ⟨_, rfl⟩
    have hox := opEq HC.out hc hjn
    rw [hx] at hox
    obtain ⟨hch, hxn⟩ := hox
    have cd := HR.out.cd c hc j hjn
    rw [hch] at cd
    have o2 := HR.out.o2 x hxn
    have o3 := HR.out.o3 x hxn
    have i3 := HR.out.o3 i hi
    have e4 : IntKind.i64.wrap ((j : Int) + 1) = (j : Int) + 1 := wrap64 (by unfold i64; omega)
    have HX := hide hx
    clear hch hx
    have fin : ∀ (g : Nat → Value) (a : Act), a.defers = [] → (∀ j, j < 864 → a.tmps[j]? = some (g j)) → g 34 = .int .i64 ((j : Int) + 1) → g 33 = .bool true → (∀ s, s < 33 → g s = f0 s) → (E.wr x = true → E.vv x ≠ E.vv i) → ∀ q, K a (w.drewN q) := by
      intro g a h1 h2 h3 h4 h5 h6 q
      refine HK.out a _ g (E.cl c - (j + 1)) h1 h2 (by omega) ⟨j + 1, q, by omega, by omega, rfl, rfl, by simp [h3], h4, h5, fun j' a1 a2 => ?_⟩
      by_cases e : j' = j
      · subst e; rw [HX.out]; exact h6
      · exact HI.out j' a1 (by omega)
    have FIN := hide fin
    clear fin
    cases q1 : E.wr x
    case false =>
      repeat (first
        | (refine wpList_put hD hV ?hd ?_; (case hd => decide); clear hD hV; (try clear a); intro a hD hV)
        | ((first | refine wpList_plain rfl (fun K hK => ?_) | refine wpList_step (fun K hK => ?_)); go_simp; refine hK _ _ ?_; clear hK K)
        | (refine wp_cond_true ?hc ?_; (case hc => simp [Act.eval, hV, hfs]; done))
        | (refine wp_cond_false ?hc ?_; (case hc => simp [Act.eval, hV, hfs]; done))
        | go_step)
      refine wp_region_quiet_lit (by kernel_rfl) (by kernel_rfl) ?_
      repeat (first
        | (refine wpQuiet_put hD hV ?hd ?_; (case hd => decide); clear hD hV; (try clear a); intro a hD hV)
        | (refine wpQuiet_step (fun K hK => ?_); go_simp; refine hK _ ?_; clear hK K))
      refine wpQuiet_nil ?_
      intro w' hw'
      obtain ⟨nq, hw''⟩ := hw'
      subst hw''
      repeat (first
        | (refine wpList_put hD hV ?hd ?_; (case hd => decide); clear hD hV; (try clear a); intro a hD hV)
        | ((first | refine wpList_plain rfl (fun K hK => ?_) | refine wpList_step (fun K hK => ?_)); go_simp; refine hK _ _ ?_; clear hK K)
        | (refine wp_cond_true ?hc ?_; (case hc => simp [Act.eval, hV, hfs]; done))
        | (refine wp_cond_false ?hc ?_; (case hc => simp [Act.eval, hV, hfs]; done))
        | go_step)
      refine FIN.out _ a hD hV (by simp [hfs]) (by simp [hfs, h33]) ?_ (by simp [q1]) _
      repeat (first | exact HP.out | refine fpres (by omega) ?_)
    case true =>
      cases q2 : (E.vv x == E.vv i)
      case false =>
        repeat (first
          | (refine wpList_put hD hV ?hd ?_; (case hd => decide); clear hD hV; (try clear a); intro a hD hV)
          | ((first | refine wpList_plain rfl (fun K hK => ?_) | refine wpList_step (fun K hK => ?_)); go_simp; refine hK _ _ ?_; clear hK K)
          | (refine wp_cond_true ?hc ?_; (case hc => simp [Act.eval, hV, hfs]; done))
          | (refine wp_cond_false ?hc ?_; (case hc => simp [Act.eval, hV, hfs]; done))
          | go_step)
        refine wp_region_quiet_lit (by kernel_rfl) (by kernel_rfl) ?_
        repeat (first
          | (refine wpQuiet_put hD hV ?hd ?_; (case hd => decide); clear hD hV; (try clear a); intro a hD hV)
          | (refine wpQuiet_step (fun K hK => ?_); go_simp; refine hK _ ?_; clear hK K))
        refine wpQuiet_nil ?_
        intro w' hw'
        obtain ⟨nq, hw''⟩ := hw'
        subst hw''
        repeat (first
          | (refine wpList_put hD hV ?hd ?_; (case hd => decide); clear hD hV; (try clear a); intro a hD hV)
          | ((first | refine wpList_plain rfl (fun K hK => ?_) | refine wpList_step (fun K hK => ?_)); go_simp; refine hK _ _ ?_; clear hK K)
          | (refine wp_cond_true ?hc ?_; (case hc => simp [Act.eval, hV, hfs]; done))
          | (refine wp_cond_false ?hc ?_; (case hc => simp [Act.eval, hV, hfs]; done))
          | go_step)
        refine FIN.out _ a hD hV (by simp [hfs]) (by simp [hfs, h33]) ?_ (fun _ => by simpa using q2) _
        repeat (first | exact HP.out | refine fpres (by omega) ?_)
      case true =>
        repeat (first
          | (refine wpList_put hD hV ?hd ?_; (case hd => decide); clear hD hV; (try clear a); intro a hD hV)
          | ((first | refine wpList_plain rfl (fun K hK => ?_) | refine wpList_step (fun K hK => ?_)); go_simp; refine hK _ _ ?_; clear hK K)
          | (refine wp_cond_true ?hc ?_; (case hc => simp [Act.eval, hV, hfs]; done))
          | (refine wp_cond_false ?hc ?_; (case hc => simp [Act.eval, hV, hfs]; done))
          | go_step)
        refine wp_region_quiet_lit (by kernel_rfl) (by kernel_rfl) ?_
        repeat (first
          | (refine wpQuiet_put hD hV ?hd ?_; (case hd => decide); clear hD hV; (try clear a); intro a hD hV)
          | (refine wpQuiet_step (fun K hK => ?_); go_simp; refine hK _ ?_; clear hK K))
        refine wpQuiet_nil ?_
        intro w' hw'
        obtain ⟨nq, hw''⟩ := hw'
        subst hw''
        repeat (first
          | (refine wpList_put hD hV ?hd ?_; (case hd => decide); clear hD hV; (try clear a); intro a hD hV)
          | ((first | refine wpList_plain rfl (fun K hK => ?_) | refine wpList_step (fun K hK => ?_)); go_simp; refine hK _ _ ?_; clear hK K)
          | (refine wp_cond_true ?hc ?_; (case hc => simp [Act.eval, hV, hfs]; done))
          | (refine wp_cond_false ?hc ?_; (case hc => simp [Act.eval, hV, hfs]; done))
          | go_step)
        refine HN.out a _ _ false hD hV ?_ (by simp [hfs]) ?_
        · repeat (first | exact HP.out | refine fpres (by omega) ?_)
        · refine ⟨(fun h => by cases h), fun h => absurd (by simpa using q2) (HX.out ▸ h j hj hjn (by rw [HX.out]; exact q1))⟩
  · repeat (first
      | (refine wpList_put hD hV ?hd ?_; (case hd => decide); clear hD hV; (try clear a); intro a hD hV)
      | ((first | refine wpList_plain rfl (fun K hK => ?_) | refine wpList_step (fun K hK => ?_)); go_simp; refine hK _ _ ?_; clear hK K)
      | (refine wp_cond_true ?hc ?_; (case hc => simp [Act.eval, hV, hfs]; done))
      | (refine wp_cond_false ?hc ?_; (case hc => simp [Act.eval, hV, hfs]; done))
      | go_step)
    refine HN.out a _ _ true hD hV ?_ (by simp [hfs, h33]) ⟨fun _ j' a1 a2 => HI.out j' a1 (by omega), fun _ => rfl⟩
    repeat (first | exact HP.out | refine fpres (by omega) ?_)
end
end Go.Proofs.Qxb6616080a
