import Derived.Test.Qxb6616080aF7z
import Derived.Test.Qxb6616080aF7n
import Derived.Test.Qxb6616080aG6
namespace Go.Proofs.Qxb6616080a
open Go.RowKit
set_option linter.unusedVariables false
set_option linter.unusedSimpArgs false
set_option maxRecDepth 100000
section
variable {T : Ad} {L : Nat → Nat} {n : Nat} {only tp : Int} {seed hash : Nat} {Q : Exit → Act → World → Prop}
theorem st0r {a : Act} {w : World} {f : Nat → Value} (h0 : f 0 = .slice T.oA n T.oc) (h1 : f 1 = .agg (rval T.A L T.cap only tp seed hash)) (hD : a.defers = []) (hV : ∀ j, j < 864 → a.tmps[j]? = some (f j))
    (hNext : ∀ (a : Act) (f : Nat → Value), a.defers = [] → (∀ j, j < 864 → a.tmps[j]? = some (f j)) → f 0 = .slice T.oA n T.oc → f 3 = .pointer (some ⟨w.heap.size, 0, none⟩) → Q .normal a (w.alloc (.cells (rval T.A L T.cap only tp seed hash) 30))) :
    Code.wp Try.prog (sub [0] (Try.f7.body.getD .skip)) Q a w := by
  have hfs := fset_at
  have HN := hide hNext
  have hbox := box_r T.A L T.cap only tp seed hash w
  clear hNext
  conv => arg 2; whnf
  repeat (first
    | (refine wpList_put hD hV ?hd ?_; (case hd => decide); clear hD hV; (try clear a); intro a hD hV)
    | ((first | refine wpList_plain rfl (fun K hK => ?_) | refine wpList_step (fun K hK => ?_)); go_simp; refine hK _ _ ?_; clear hK K)
    | (refine wp_cond_true ?hc ?_; (case hc => simp [Act.eval, hV, hfs]; done))
    | (refine wp_cond_false ?hc ?_; (case hc => simp [Act.eval, hV, hfs]; done))
    | go_step)
  exact HN.out a _ hD hV (by simp [hfs, h0]) (by simp [hfs])
end

theorem f7_bad {T : Ad} {L : Nat → Nat} {n : Nat} {only tp : Int} {seed hash : Nat} {w : World} (hbad : ¬ LenOk L n) :
    Calls Try.prog 7 #[.slice T.oA n T.oc, .agg (rval T.A L T.cap only tp seed hash)] w fun e w' => e = .returned (.bool false) ∧ Below w.heap.size w w' := by
  refine enter_f Try.func7 (c := sub [] (Try.f7.body.getD .skip)) rfl Try.ntmps7 (by simp) fun a hD hV => ?_
  have hbel : Below w.heap.size w (w.alloc (.cells (rval T.A L T.cap only tp seed hash) 30)) := (Below.refl _ _).alloc (Nat.le_refl _) _
  refine seq_at eq0 (st0r (T := T) (L := L) (n := n) (only := only) (tp := tp) (seed := seed) (hash := hash) (by rfl) (by rfl) hD hV ?_)
  clear hD hV a
  intro a f hD hV h0 h3
  have hcell : ∀ i, i < 19 → (w.alloc (.cells (rval T.A L T.cap only tp seed hash) 30)).cell? ⟨w.heap.size, i, none⟩ = some ((rval T.A L T.cap only tp seed hash).getD i undef) := fun i hi => by
    rw [World.cell?_alloc_new]
    have : i < (rval T.A L T.cap only tp seed hash).size := hi
    simp [this]
  refine lenBad (L := L) (A := T.A) (cap := T.cap) (hcell 1 (by omega)) (hcell 2 (by omega)) (hcell 4 (by omega)) (hcell 5 (by omega)) (hcell 6 (by omega)) (hcell 7 (by omega)) (hcell 8 (by omega)) (hcell 9 (by omega)) (hcell 10 (by omega)) (hcell 11 (by omega)) (hcell 12 (by omega)) (hcell 13 (by omega)) (hcell 14 (by omega)) (hcell 15 (by omega)) h0 h3 hbad hD hV ?_
  intro a f hD hV h4
  exact ret_f (N := 864) (s := 4) rfl hD hV (by omega) ⟨by rw [h4], hbel⟩
end Go.Proofs.Qxb6616080a
