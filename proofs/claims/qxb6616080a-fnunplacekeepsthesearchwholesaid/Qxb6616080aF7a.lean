import Derived.Test.Qxb6616080aMem
namespace Go.Proofs.Qxb6616080a
open Go.RowKit
set_option linter.unusedVariables false
set_option linter.unusedSimpArgs false
set_option maxRecDepth 100000

/-- The slots of 'searchHolds' that every statement reads. -/
structure Bs (T : Ad) (E : Env) (S : Nat) (f : Nat → Value) : Prop where
  h0 : f 0 = .slice T.oA E.n T.oc
  h3 : f 3 = .pointer (some ⟨S, 0, none⟩)
  h5 : f 5 = .int .i64 E.n
  h6 : f 6 = .int .i64 E.nc
  h7 : f 7 = .int .i64 E.nv

theorem wrap64 {x : Int} (h : i64 x) : IntKind.i64.wrap x = x := by
  unfold i64 at h
  simp [IntKind.wrap, IntKind.bits, IntKind.signed]
  omega
theorem wrap64' {x : Int} (h : i32 x) : IntKind.i64.wrap x = x := wrap64 (by unfold i32 at h; unfold i64; omega)

/-- 'ops[i].V' in range, for every i. -/
theorem st5 {Q : Exit → Act → World → Prop} {a : Act} {w : World} {f : Nat → Value} {T : Ad} {E : Env} {D : Dyn} {B S : Nat} (hR : Rd w B T E D) (hb : Bs T E S f)
    (hD : a.defers = []) (hV : ∀ j, j < 864 → a.tmps[j]? = some (f j))
    (hNext : ∀ (a : Act) (f : Nat → Value), a.defers = [] → (∀ j, j < 864 → a.tmps[j]? = some (f j)) → Bs T E S f → (∀ i, i < E.n → 0 ≤ E.vv i ∧ E.vv i < E.nv) → Q .normal a w)
    (hRet : ∀ (a : Act) (f : Nat → Value), a.defers = [] → (∀ j, j < 864 → a.tmps[j]? = some (f j)) → f 4 = .bool false → (¬ ∀ i, i < E.n → 0 ≤ E.vv i ∧ E.vv i < E.nv) → Q .ret a w) :
    Code.wp Try.prog (sub [1, 1, 1, 1, 1, 0] (Try.f7.body.getD .skip)) Q a w := by
  have hfs := fset_at
  obtain ⟨h0, h3, h5, h6, h7⟩ := hb
  have HN := hide hNext
  have HR := hide hRet
  clear hNext hRet
  conv => arg 2; whnf
  repeat (first
    | (refine wpList_put hD hV ?hd ?_; (case hd => decide); clear hD hV a; intro a hD hV)
    | ((first | refine wpList_plain rfl (fun K hK => ?_) | refine wpList_step (fun K hK => ?_)); go_simp; refine hK _ _ ?_; clear hK K)
    | (refine wp_cond_true ?hc ?_; (case hc => simp [Act.eval, hV, hfs]; done))
    | (refine wp_cond_false ?hc ?_; (case hc => simp [Act.eval, hV, hfs]; done))
    | go_step)
  refine wp_loop_f (N := 864) (fun m f w' => ∃ k, k ≤ E.n ∧ m = E.n - k ∧ w' = w ∧ f 8 = .int .i64 (k : Nat) ∧ Bs T E S f ∧ ∀ i, i < k → 0 ≤ E.vv i ∧ E.vv i < E.nv) E.n hD hV ⟨0, by omega, by omega, rfl, by simp [hfs], ⟨by simp [hfs, h0], by simp [hfs, h3], by simp [hfs, h5], by simp [hfs, h6], by simp [hfs, h7]⟩, fun i hi => by omega⟩ ?_
  clear h0 h3 h5 h6 h7 hD hV a f
  intro m f w' a hD hV ⟨k, hk, hm, hw, h8, hb, hI⟩ K hK
  subst hw
  obtain ⟨h0, h3, h5, h6, h7⟩ := hb
  by_cases hkn : k < E.n
  · have c3 := hR.o3 k hkn
    have cn := hR.on (by omega)
    have rv := hR.r_vv k hkn
    have e1 := wrap64' rv
    have e2 : IntKind.i64.wrap ((k : Int) + 1) = (k : Int) + 1 := wrap64 (by have := hR.m_n; unfold i64; omega)
    by_cases g1 : E.vv k < 0
    · repeat (first
        | (refine wpList_put hD hV ?hd ?_; (case hd => decide); clear hD hV a; intro a hD hV)
        | ((first | refine wpList_plain rfl (fun K hK => ?_) | refine wpList_step (fun K hK => ?_)); go_simp; refine hK _ _ ?_; clear hK K)
        | (refine wp_cond_true ?hc ?_; (case hc => simp [Act.eval, hV, hfs]; done))
        | (refine wp_cond_false ?hc ?_; (case hc => simp [Act.eval, hV, hfs]; done))
        | go_step)
      exact HR.out a _ hD hV (by simp [hfs]) (fun h => by have := h k hkn; omega)
    · by_cases g2 : (E.nv : Int) ≤ E.vv k
      · repeat (first
          | (refine wpList_put hD hV ?hd ?_; (case hd => decide); clear hD hV a; intro a hD hV)
          | ((first | refine wpList_plain rfl (fun K hK => ?_) | refine wpList_step (fun K hK => ?_)); go_simp; refine hK _ _ ?_; clear hK K)
          | (refine wp_cond_true ?hc ?_; (case hc => simp [Act.eval, hV, hfs]; done))
          | (refine wp_cond_false ?hc ?_; (case hc => simp [Act.eval, hV, hfs]; done))
          | go_step)
        exact HR.out a _ hD hV (by simp [hfs]) (fun h => by have := h k hkn; omega)
      · repeat (first
          | (refine wpList_put hD hV ?hd ?_; (case hd => decide); clear hD hV a; intro a hD hV)
          | ((first | refine wpList_plain rfl (fun K hK => ?_) | refine wpList_step (fun K hK => ?_)); go_simp; refine hK _ _ ?_; clear hK K)
          | (refine wp_cond_true ?hc ?_; (case hc => simp [Act.eval, hV, hfs]; done))
          | (refine wp_cond_false ?hc ?_; (case hc => simp [Act.eval, hV, hfs]; done))
          | go_step)
        refine hK a _ _ (E.n - (k + 1)) hD hV (by omega) ⟨k + 1, by omega, rfl, rfl, by simp [hfs], ⟨by simp [hfs, h0], by simp [hfs, h3], by simp [hfs, h5], by simp [hfs, h6], by simp [hfs, h7]⟩, fun i hi => ?_⟩
        by_cases e : i = k
        · subst e; omega
        · exact hI i (by omega)
  · repeat (first
      | (refine wpList_put hD hV ?hd ?_; (case hd => decide); clear hD hV a; intro a hD hV)
      | ((first | refine wpList_plain rfl (fun K hK => ?_) | refine wpList_step (fun K hK => ?_)); go_simp; refine hK _ _ ?_; clear hK K)
      | (refine wp_cond_true ?hc ?_; (case hc => simp [Act.eval, hV, hfs]; done))
      | (refine wp_cond_false ?hc ?_; (case hc => simp [Act.eval, hV, hfs]; done))
      | go_step)
    exact HN.out a _ hD hV ⟨by simp [hfs, h0], by simp [hfs, h3], by simp [hfs, h5], by simp [hfs, h6], by simp [hfs, h7]⟩ (fun i hi => hI i (by omega))
end Go.Proofs.Qxb6616080a
