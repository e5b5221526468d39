import Derived.Test.Qxb6616080aEn
namespace Go.Proofs.Qxb6616080a
open Go.RowKit
set_option linter.unusedVariables false
set_option linter.unusedSimpArgs false
set_option maxRecDepth 100000

section
variable {Q : Exit → Act → World → Prop}

/-- The lengths fit. -/
def LenOk (L : Nat → Nat) (n : Nat) : Prop := L 2 = L 1 ∧ L 4 = n ∧ L 6 = n ∧ L 7 = n ∧ L 8 = L 5 ∧ L 9 = L 5 ∧ L 10 = n ∧ L 11 = L 5 ∧ L 12 = L 5 ∧ L 13 = L 1 ∧ L 14 = L 1 ∧ L 15 = L 1

set_option maxHeartbeats 8000000 in
theorem lenBad {a : Act} {w : World} {f : Nat → Value} {L : Nat → Nat} {A : Nat → Option Addr} {cap : Nat → Nat} {S n oc : Nat} {oA : Option Addr}
    (s1 : w.cell? ⟨S, 1, none⟩ = some (.slice (A 1) (L 1) (cap 1)))
    (s2 : w.cell? ⟨S, 2, none⟩ = some (.slice (A 2) (L 2) (cap 2)))
    (s4 : w.cell? ⟨S, 4, none⟩ = some (.slice (A 4) (L 4) (cap 4)))
    (s5 : w.cell? ⟨S, 5, none⟩ = some (.slice (A 5) (L 5) (cap 5)))
    (s6 : w.cell? ⟨S, 6, none⟩ = some (.slice (A 6) (L 6) (cap 6)))
    (s7 : w.cell? ⟨S, 7, none⟩ = some (.slice (A 7) (L 7) (cap 7)))
    (s8 : w.cell? ⟨S, 8, none⟩ = some (.slice (A 8) (L 8) (cap 8)))
    (s9 : w.cell? ⟨S, 9, none⟩ = some (.slice (A 9) (L 9) (cap 9)))
    (s10 : w.cell? ⟨S, 10, none⟩ = some (.slice (A 10) (L 10) (cap 10)))
    (s11 : w.cell? ⟨S, 11, none⟩ = some (.slice (A 11) (L 11) (cap 11)))
    (s12 : w.cell? ⟨S, 12, none⟩ = some (.slice (A 12) (L 12) (cap 12)))
    (s13 : w.cell? ⟨S, 13, none⟩ = some (.slice (A 13) (L 13) (cap 13)))
    (s14 : w.cell? ⟨S, 14, none⟩ = some (.slice (A 14) (L 14) (cap 14)))
    (s15 : w.cell? ⟨S, 15, none⟩ = some (.slice (A 15) (L 15) (cap 15)))
    (h0 : f 0 = .slice oA n oc) (h3 : f 3 = .pointer (some ⟨S, 0, none⟩)) (hbad : ¬ LenOk L n)
    (hD : a.defers = []) (hV : ∀ j, j < 864 → a.tmps[j]? = some (f j))
    (hRet : ∀ (a : Act) (f : Nat → Value), a.defers = [] → (∀ j, j < 864 → a.tmps[j]? = some (f j)) → f 4 = .bool false → Q .ret a w) :
    Code.wp Try.prog (sub [1] (Try.f7.body.getD .skip)) Q a w := by
  have hfs := fset_at
  have HR := hide hRet
  have HB := hide hbad
  clear hRet hbad
  obtain ⟨c5, hc5⟩ : ∃ c, sub [1, 1, 1, 1, 1] (Try.f7.body.getD .skip) = c := ⟨_, rfl⟩
  have e : sub [1] (Try.f7.body.getD .skip) = .seq (sub [1, 0] (Try.f7.body.getD .skip)) (.seq (sub [1, 1, 0] (Try.f7.body.getD .skip)) (.seq (sub [1, 1, 1, 0] (Try.f7.body.getD .skip)) (.seq (sub [1, 1, 1, 1, 0] (Try.f7.body.getD .skip)) c5))) := by rw [← hc5]; kernel_rfl
  rw [e]
  clear e hc5
  cases q2 : ((L 2 : Int) != ((L 1 : Nat) : Int))
  case true =>
    refine wp_seq_k (fun K1 hK1 => ?_)
    conv => arg 2; whnf
    repeat (first
      | (refine wpList_put hD hV ?hd ?_; (case hd => decide); clear hD hV; (try clear a); intro a hD hV)
      | ((first | refine wpList_plain rfl (fun K hK => ?_) | refine wpList_step (fun K hK => ?_)); go_simp; refine hK _ _ ?_; clear hK K)
      | (refine wp_cond_true ?hc ?_; (case hc => simp [Act.eval, hV, hfs]; done))
      | (refine wp_cond_false ?hc ?_; (case hc => simp [Act.eval, hV, hfs]; done))
      | go_step)
    conv => arg 2; whnf
    repeat (first
      | (refine wpList_put hD hV ?hd ?_; (case hd => decide); clear hD hV; (try clear a); intro a hD hV)
      | ((first | refine wpList_plain rfl (fun K hK => ?_) | refine wpList_step (fun K hK => ?_)); go_simp; refine hK _ _ ?_; clear hK K)
      | (refine wp_cond_true ?hc ?_; (case hc => simp [Act.eval, hV, hfs]; done))
      | (refine wp_cond_false ?hc ?_; (case hc => simp [Act.eval, hV, hfs]; done))
      | go_step)
    conv => arg 2; whnf
    repeat (first
      | (refine wpList_put hD hV ?hd ?_; (case hd => decide); clear hD hV; (try clear a); intro a hD hV)
      | ((first | refine wpList_plain rfl (fun K hK => ?_) | refine wpList_step (fun K hK => ?_)); go_simp; refine hK _ _ ?_; clear hK K)
      | (refine wp_cond_true ?hc ?_; (case hc => simp [Act.eval, hV, hfs]; done))
      | (refine wp_cond_false ?hc ?_; (case hc => simp [Act.eval, hV, hfs]; done))
      | go_step)
    conv => arg 2; whnf
    repeat (first
      | (refine wpList_put hD hV ?hd ?_; (case hd => decide); clear hD hV; (try clear a); intro a hD hV)
      | ((first | refine wpList_plain rfl (fun K hK => ?_) | refine wpList_step (fun K hK => ?_)); go_simp; refine hK _ _ ?_; clear hK K)
      | (refine wp_cond_true ?hc ?_; (case hc => simp [Act.eval, hV, hfs]; done))
      | (refine wp_cond_false ?hc ?_; (case hc => simp [Act.eval, hV, hfs]; done))
      | go_step)
    exact HR.out a _ hD hV (by simp [hfs])
  case false =>
    cases q4 : ((L 4 : Int) != ((n : Nat) : Int))
    case true =>
      refine wp_seq_k (fun K1 hK1 => ?_)
      conv => arg 2; whnf
      repeat (first
        | (refine wpList_put hD hV ?hd ?_; (case hd => decide); clear hD hV; (try clear a); intro a hD hV)
        | ((first | refine wpList_plain rfl (fun K hK => ?_) | refine wpList_step (fun K hK => ?_)); go_simp; refine hK _ _ ?_; clear hK K)
        | (refine wp_cond_true ?hc ?_; (case hc => simp [Act.eval, hV, hfs]; done))
        | (refine wp_cond_false ?hc ?_; (case hc => simp [Act.eval, hV, hfs]; done))
        | go_step)
      conv => arg 2; whnf
      repeat (first
        | (refine wpList_put hD hV ?hd ?_; (case hd => decide); clear hD hV; (try clear a); intro a hD hV)
        | ((first | refine wpList_plain rfl (fun K hK => ?_) | refine wpList_step (fun K hK => ?_)); go_simp; refine hK _ _ ?_; clear hK K)
        | (refine wp_cond_true ?hc ?_; (case hc => simp [Act.eval, hV, hfs]; done))
        | (refine wp_cond_false ?hc ?_; (case hc => simp [Act.eval, hV, hfs]; done))
        | go_step)
      conv => arg 2; whnf
      repeat (first
        | (refine wpList_put hD hV ?hd ?_; (case hd => decide); clear hD hV; (try clear a); intro a hD hV)
        | ((first | refine wpList_plain rfl (fun K hK => ?_) | refine wpList_step (fun K hK => ?_)); go_simp; refine hK _ _ ?_; clear hK K)
        | (refine wp_cond_true ?hc ?_; (case hc => simp [Act.eval, hV, hfs]; done))
        | (refine wp_cond_false ?hc ?_; (case hc => simp [Act.eval, hV, hfs]; done))
        | go_step)
      conv => arg 2; whnf
      repeat (first
        | (refine wpList_put hD hV ?hd ?_; (case hd => decide); clear hD hV; (try clear a); intro a hD hV)
        | ((first | refine wpList_plain rfl (fun K hK => ?_) | refine wpList_step (fun K hK => ?_)); go_simp; refine hK _ _ ?_; clear hK K)
        | (refine wp_cond_true ?hc ?_; (case hc => simp [Act.eval, hV, hfs]; done))
        | (refine wp_cond_false ?hc ?_; (case hc => simp [Act.eval, hV, hfs]; done))
        | go_step)
      exact HR.out a _ hD hV (by simp [hfs])
    case false =>
      cases q6 : ((L 6 : Int) != ((n : Nat) : Int))
      case true =>
        refine wp_seq_k (fun K1 hK1 => ?_)
        conv => arg 2; whnf
        repeat (first
          | (refine wpList_put hD hV ?hd ?_; (case hd => decide); clear hD hV; (try clear a); intro a hD hV)
          | ((first | refine wpList_plain rfl (fun K hK => ?_) | refine wpList_step (fun K hK => ?_)); go_simp; refine hK _ _ ?_; clear hK K)
          | (refine wp_cond_true ?hc ?_; (case hc => simp [Act.eval, hV, hfs]; done))
          | (refine wp_cond_false ?hc ?_; (case hc => simp [Act.eval, hV, hfs]; done))
          | go_step)
        conv => arg 2; whnf
        repeat (first
          | (refine wpList_put hD hV ?hd ?_; (case hd => decide); clear hD hV; (try clear a); intro a hD hV)
          | ((first | refine wpList_plain rfl (fun K hK => ?_) | refine wpList_step (fun K hK => ?_)); go_simp; refine hK _ _ ?_; clear hK K)
          | (refine wp_cond_true ?hc ?_; (case hc => simp [Act.eval, hV, hfs]; done))
          | (refine wp_cond_false ?hc ?_; (case hc => simp [Act.eval, hV, hfs]; done))
          | go_step)
        conv => arg 2; whnf
        repeat (first
          | (refine wpList_put hD hV ?hd ?_; (case hd => decide); clear hD hV; (try clear a); intro a hD hV)
          | ((first | refine wpList_plain rfl (fun K hK => ?_) | refine wpList_step (fun K hK => ?_)); go_simp; refine hK _ _ ?_; clear hK K)
          | (refine wp_cond_true ?hc ?_; (case hc => simp [Act.eval, hV, hfs]; done))
          | (refine wp_cond_false ?hc ?_; (case hc => simp [Act.eval, hV, hfs]; done))
          | go_step)
        conv => arg 2; whnf
        repeat (first
          | (refine wpList_put hD hV ?hd ?_; (case hd => decide); clear hD hV; (try clear a); intro a hD hV)
          | ((first | refine wpList_plain rfl (fun K hK => ?_) | refine wpList_step (fun K hK => ?_)); go_simp; refine hK _ _ ?_; clear hK K)
          | (refine wp_cond_true ?hc ?_; (case hc => simp [Act.eval, hV, hfs]; done))
          | (refine wp_cond_false ?hc ?_; (case hc => simp [Act.eval, hV, hfs]; done))
          | go_step)
        exact HR.out a _ hD hV (by simp [hfs])
      case false =>
        cases q7 : ((L 7 : Int) != ((n : Nat) : Int))
        case true =>
          refine wp_seq_k (fun K1 hK1 => ?_)
          conv => arg 2; whnf
          repeat (first
            | (refine wpList_put hD hV ?hd ?_; (case hd => decide); clear hD hV; (try clear a); intro a hD hV)
            | ((first | refine wpList_plain rfl (fun K hK => ?_) | refine wpList_step (fun K hK => ?_)); go_simp; refine hK _ _ ?_; clear hK K)
            | (refine wp_cond_true ?hc ?_; (case hc => simp [Act.eval, hV, hfs]; done))
            | (refine wp_cond_false ?hc ?_; (case hc => simp [Act.eval, hV, hfs]; done))
            | go_step)
          conv => arg 2; whnf
          repeat (first
            | (refine wpList_put hD hV ?hd ?_; (case hd => decide); clear hD hV; (try clear a); intro a hD hV)
            | ((first | refine wpList_plain rfl (fun K hK => ?_) | refine wpList_step (fun K hK => ?_)); go_simp; refine hK _ _ ?_; clear hK K)
            | (refine wp_cond_true ?hc ?_; (case hc => simp [Act.eval, hV, hfs]; done))
            | (refine wp_cond_false ?hc ?_; (case hc => simp [Act.eval, hV, hfs]; done))
            | go_step)
          conv => arg 2; whnf
          repeat (first
            | (refine wpList_put hD hV ?hd ?_; (case hd => decide); clear hD hV; (try clear a); intro a hD hV)
            | ((first | refine wpList_plain rfl (fun K hK => ?_) | refine wpList_step (fun K hK => ?_)); go_simp; refine hK _ _ ?_; clear hK K)
            | (refine wp_cond_true ?hc ?_; (case hc => simp [Act.eval, hV, hfs]; done))
            | (refine wp_cond_false ?hc ?_; (case hc => simp [Act.eval, hV, hfs]; done))
            | go_step)
          conv => arg 2; whnf
          repeat (first
            | (refine wpList_put hD hV ?hd ?_; (case hd => decide); clear hD hV; (try clear a); intro a hD hV)
            | ((first | refine wpList_plain rfl (fun K hK => ?_) | refine wpList_step (fun K hK => ?_)); go_simp; refine hK _ _ ?_; clear hK K)
            | (refine wp_cond_true ?hc ?_; (case hc => simp [Act.eval, hV, hfs]; done))
            | (refine wp_cond_false ?hc ?_; (case hc => simp [Act.eval, hV, hfs]; done))
            | go_step)
          exact HR.out a _ hD hV (by simp [hfs])
        case false =>
          cases q8 : ((L 8 : Int) != ((L 5 : Nat) : Int))
          case true =>
            refine wp_seq_k (fun K1 hK1 => ?_)
            conv => arg 2; whnf
            repeat (first
              | (refine wpList_put hD hV ?hd ?_; (case hd => decide); clear hD hV; (try clear a); intro a hD hV)
              | ((first | refine wpList_plain rfl (fun K hK => ?_) | refine wpList_step (fun K hK => ?_)); go_simp; refine hK _ _ ?_; clear hK K)
              | (refine wp_cond_true ?hc ?_; (case hc => simp [Act.eval, hV, hfs]; done))
              | (refine wp_cond_false ?hc ?_; (case hc => simp [Act.eval, hV, hfs]; done))
              | go_step)
            conv => arg 2; whnf
            repeat (first
              | (refine wpList_put hD hV ?hd ?_; (case hd => decide); clear hD hV; (try clear a); intro a hD hV)
              | ((first | refine wpList_plain rfl (fun K hK => ?_) | refine wpList_step (fun K hK => ?_)); go_simp; refine hK _ _ ?_; clear hK K)
              | (refine wp_cond_true ?hc ?_; (case hc => simp [Act.eval, hV, hfs]; done))
              | (refine wp_cond_false ?hc ?_; (case hc => simp [Act.eval, hV, hfs]; done))
              | go_step)
            conv => arg 2; whnf
            repeat (first
              | (refine wpList_put hD hV ?hd ?_; (case hd => decide); clear hD hV; (try clear a); intro a hD hV)
              | ((first | refine wpList_plain rfl (fun K hK => ?_) | refine wpList_step (fun K hK => ?_)); go_simp; refine hK _ _ ?_; clear hK K)
              | (refine wp_cond_true ?hc ?_; (case hc => simp [Act.eval, hV, hfs]; done))
              | (refine wp_cond_false ?hc ?_; (case hc => simp [Act.eval, hV, hfs]; done))
              | go_step)
            conv => arg 2; whnf
            repeat (first
              | (refine wpList_put hD hV ?hd ?_; (case hd => decide); clear hD hV; (try clear a); intro a hD hV)
              | ((first | refine wpList_plain rfl (fun K hK => ?_) | refine wpList_step (fun K hK => ?_)); go_simp; refine hK _ _ ?_; clear hK K)
              | (refine wp_cond_true ?hc ?_; (case hc => simp [Act.eval, hV, hfs]; done))
              | (refine wp_cond_false ?hc ?_; (case hc => simp [Act.eval, hV, hfs]; done))
              | go_step)
            exact HR.out a _ hD hV (by simp [hfs])
          case false =>
            cases q9 : ((L 9 : Int) != ((L 5 : Nat) : Int))
            case true =>
              refine wp_seq_k (fun K1 hK1 => ?_)
              conv => arg 2; whnf
              repeat (first
                | (refine wpList_put hD hV ?hd ?_; (case hd => decide); clear hD hV; (try clear a); intro a hD hV)
                | ((first | refine wpList_plain rfl (fun K hK => ?_) | refine wpList_step (fun K hK => ?_)); go_simp; refine hK _ _ ?_; clear hK K)
                | (refine wp_cond_true ?hc ?_; (case hc => simp [Act.eval, hV, hfs]; done))
                | (refine wp_cond_false ?hc ?_; (case hc => simp [Act.eval, hV, hfs]; done))
                | go_step)
              conv => arg 2; whnf
              repeat (first
                | (refine wpList_put hD hV ?hd ?_; (case hd => decide); clear hD hV; (try clear a); intro a hD hV)
                | ((first | refine wpList_plain rfl (fun K hK => ?_) | refine wpList_step (fun K hK => ?_)); go_simp; refine hK _ _ ?_; clear hK K)
                | (refine wp_cond_true ?hc ?_; (case hc => simp [Act.eval, hV, hfs]; done))
                | (refine wp_cond_false ?hc ?_; (case hc => simp [Act.eval, hV, hfs]; done))
                | go_step)
              conv => arg 2; whnf
              repeat (first
                | (refine wpList_put hD hV ?hd ?_; (case hd => decide); clear hD hV; (try clear a); intro a hD hV)
                | ((first | refine wpList_plain rfl (fun K hK => ?_) | refine wpList_step (fun K hK => ?_)); go_simp; refine hK _ _ ?_; clear hK K)
                | (refine wp_cond_true ?hc ?_; (case hc => simp [Act.eval, hV, hfs]; done))
                | (refine wp_cond_false ?hc ?_; (case hc => simp [Act.eval, hV, hfs]; done))
                | go_step)
              conv => arg 2; whnf
              repeat (first
                | (refine wpList_put hD hV ?hd ?_; (case hd => decide); clear hD hV; (try clear a); intro a hD hV)
                | ((first | refine wpList_plain rfl (fun K hK => ?_) | refine wpList_step (fun K hK => ?_)); go_simp; refine hK _ _ ?_; clear hK K)
                | (refine wp_cond_true ?hc ?_; (case hc => simp [Act.eval, hV, hfs]; done))
                | (refine wp_cond_false ?hc ?_; (case hc => simp [Act.eval, hV, hfs]; done))
                | go_step)
              exact HR.out a _ hD hV (by simp [hfs])
            case false =>
              cases q10 : ((L 10 : Int) != ((n : Nat) : Int))
              case true =>
                refine wp_seq_k (fun K1 hK1 => ?_)
                conv => arg 2; whnf
                repeat (first
                  | (refine wpList_put hD hV ?hd ?_; (case hd => decide); clear hD hV; (try clear a); intro a hD hV)
                  | ((first | refine wpList_plain rfl (fun K hK => ?_) | refine wpList_step (fun K hK => ?_)); go_simp; refine hK _ _ ?_; clear hK K)
                  | (refine wp_cond_true ?hc ?_; (case hc => simp [Act.eval, hV, hfs]; done))
                  | (refine wp_cond_false ?hc ?_; (case hc => simp [Act.eval, hV, hfs]; done))
                  | go_step)
                conv => arg 2; whnf
                repeat (first
                  | (refine wpList_put hD hV ?hd ?_; (case hd => decide); clear hD hV; (try clear a); intro a hD hV)
                  | ((first | refine wpList_plain rfl (fun K hK => ?_) | refine wpList_step (fun K hK => ?_)); go_simp; refine hK _ _ ?_; clear hK K)
                  | (refine wp_cond_true ?hc ?_; (case hc => simp [Act.eval, hV, hfs]; done))
                  | (refine wp_cond_false ?hc ?_; (case hc => simp [Act.eval, hV, hfs]; done))
                  | go_step)
                conv => arg 2; whnf
                repeat (first
                  | (refine wpList_put hD hV ?hd ?_; (case hd => decide); clear hD hV; (try clear a); intro a hD hV)
                  | ((first | refine wpList_plain rfl (fun K hK => ?_) | refine wpList_step (fun K hK => ?_)); go_simp; refine hK _ _ ?_; clear hK K)
                  | (refine wp_cond_true ?hc ?_; (case hc => simp [Act.eval, hV, hfs]; done))
                  | (refine wp_cond_false ?hc ?_; (case hc => simp [Act.eval, hV, hfs]; done))
                  | go_step)
                conv => arg 2; whnf
                repeat (first
                  | (refine wpList_put hD hV ?hd ?_; (case hd => decide); clear hD hV; (try clear a); intro a hD hV)
                  | ((first | refine wpList_plain rfl (fun K hK => ?_) | refine wpList_step (fun K hK => ?_)); go_simp; refine hK _ _ ?_; clear hK K)
                  | (refine wp_cond_true ?hc ?_; (case hc => simp [Act.eval, hV, hfs]; done))
                  | (refine wp_cond_false ?hc ?_; (case hc => simp [Act.eval, hV, hfs]; done))
                  | go_step)
                exact HR.out a _ hD hV (by simp [hfs])
              case false =>
                cases q11 : ((L 11 : Int) != ((L 5 : Nat) : Int))
                case true =>
                  refine wp_seq_k (fun K1 hK1 => ?_)
                  conv => arg 2; whnf
                  repeat (first
                    | (refine wpList_put hD hV ?hd ?_; (case hd => decide); clear hD hV; (try clear a); intro a hD hV)
                    | ((first | refine wpList_plain rfl (fun K hK => ?_) | refine wpList_step (fun K hK => ?_)); go_simp; refine hK _ _ ?_; clear hK K)
                    | (refine wp_cond_true ?hc ?_; (case hc => simp [Act.eval, hV, hfs]; done))
                    | (refine wp_cond_false ?hc ?_; (case hc => simp [Act.eval, hV, hfs]; done))
                    | go_step)
                  conv => arg 2; whnf
                  repeat (first
                    | (refine wpList_put hD hV ?hd ?_; (case hd => decide); clear hD hV; (try clear a); intro a hD hV)
                    | ((first | refine wpList_plain rfl (fun K hK => ?_) | refine wpList_step (fun K hK => ?_)); go_simp; refine hK _ _ ?_; clear hK K)
                    | (refine wp_cond_true ?hc ?_; (case hc => simp [Act.eval, hV, hfs]; done))
                    | (refine wp_cond_false ?hc ?_; (case hc => simp [Act.eval, hV, hfs]; done))
                    | go_step)
                  conv => arg 2; whnf
                  repeat (first
                    | (refine wpList_put hD hV ?hd ?_; (case hd => decide); clear hD hV; (try clear a); intro a hD hV)
                    | ((first | refine wpList_plain rfl (fun K hK => ?_) | refine wpList_step (fun K hK => ?_)); go_simp; refine hK _ _ ?_; clear hK K)
                    | (refine wp_cond_true ?hc ?_; (case hc => simp [Act.eval, hV, hfs]; done))
                    | (refine wp_cond_false ?hc ?_; (case hc => simp [Act.eval, hV, hfs]; done))
                    | go_step)
                  conv => arg 2; whnf
                  repeat (first
                    | (refine wpList_put hD hV ?hd ?_; (case hd => decide); clear hD hV; (try clear a); intro a hD hV)
                    | ((first | refine wpList_plain rfl (fun K hK => ?_) | refine wpList_step (fun K hK => ?_)); go_simp; refine hK _ _ ?_; clear hK K)
                    | (refine wp_cond_true ?hc ?_; (case hc => simp [Act.eval, hV, hfs]; done))
                    | (refine wp_cond_false ?hc ?_; (case hc => simp [Act.eval, hV, hfs]; done))
                    | go_step)
                  exact HR.out a _ hD hV (by simp [hfs])
                case false =>
                  cases q12 : ((L 12 : Int) != ((L 5 : Nat) : Int))
                  case true =>
                    refine wp_seq_k (fun K1 hK1 => ?_)
                    conv => arg 2; whnf
                    repeat (first
                      | (refine wpList_put hD hV ?hd ?_; (case hd => decide); clear hD hV; (try clear a); intro a hD hV)
                      | ((first | refine wpList_plain rfl (fun K hK => ?_) | refine wpList_step (fun K hK => ?_)); go_simp; refine hK _ _ ?_; clear hK K)
                      | (refine wp_cond_true ?hc ?_; (case hc => simp [Act.eval, hV, hfs]; done))
                      | (refine wp_cond_false ?hc ?_; (case hc => simp [Act.eval, hV, hfs]; done))
                      | go_step)
                    conv => arg 2; whnf
                    repeat (first
                      | (refine wpList_put hD hV ?hd ?_; (case hd => decide); clear hD hV; (try clear a); intro a hD hV)
                      | ((first | refine wpList_plain rfl (fun K hK => ?_) | refine wpList_step (fun K hK => ?_)); go_simp; refine hK _ _ ?_; clear hK K)
                      | (refine wp_cond_true ?hc ?_; (case hc => simp [Act.eval, hV, hfs]; done))
                      | (refine wp_cond_false ?hc ?_; (case hc => simp [Act.eval, hV, hfs]; done))
                      | go_step)
                    conv => arg 2; whnf
                    repeat (first
                      | (refine wpList_put hD hV ?hd ?_; (case hd => decide); clear hD hV; (try clear a); intro a hD hV)
                      | ((first | refine wpList_plain rfl (fun K hK => ?_) | refine wpList_step (fun K hK => ?_)); go_simp; refine hK _ _ ?_; clear hK K)
                      | (refine wp_cond_true ?hc ?_; (case hc => simp [Act.eval, hV, hfs]; done))
                      | (refine wp_cond_false ?hc ?_; (case hc => simp [Act.eval, hV, hfs]; done))
                      | go_step)
                    conv => arg 2; whnf
                    repeat (first
                      | (refine wpList_put hD hV ?hd ?_; (case hd => decide); clear hD hV; (try clear a); intro a hD hV)
                      | ((first | refine wpList_plain rfl (fun K hK => ?_) | refine wpList_step (fun K hK => ?_)); go_simp; refine hK _ _ ?_; clear hK K)
                      | (refine wp_cond_true ?hc ?_; (case hc => simp [Act.eval, hV, hfs]; done))
                      | (refine wp_cond_false ?hc ?_; (case hc => simp [Act.eval, hV, hfs]; done))
                      | go_step)
                    exact HR.out a _ hD hV (by simp [hfs])
                  case false =>
                    cases q13 : ((L 13 : Int) != ((L 1 : Nat) : Int))
                    case true =>
                      refine wp_seq_k (fun K1 hK1 => ?_)
                      conv => arg 2; whnf
                      repeat (first
                        | (refine wpList_put hD hV ?hd ?_; (case hd => decide); clear hD hV; (try clear a); intro a hD hV)
                        | ((first | refine wpList_plain rfl (fun K hK => ?_) | refine wpList_step (fun K hK => ?_)); go_simp; refine hK _ _ ?_; clear hK K)
                        | (refine wp_cond_true ?hc ?_; (case hc => simp [Act.eval, hV, hfs]; done))
                        | (refine wp_cond_false ?hc ?_; (case hc => simp [Act.eval, hV, hfs]; done))
                        | go_step)
                      conv => arg 2; whnf
                      repeat (first
                        | (refine wpList_put hD hV ?hd ?_; (case hd => decide); clear hD hV; (try clear a); intro a hD hV)
                        | ((first | refine wpList_plain rfl (fun K hK => ?_) | refine wpList_step (fun K hK => ?_)); go_simp; refine hK _ _ ?_; clear hK K)
                        | (refine wp_cond_true ?hc ?_; (case hc => simp [Act.eval, hV, hfs]; done))
                        | (refine wp_cond_false ?hc ?_; (case hc => simp [Act.eval, hV, hfs]; done))
                        | go_step)
                      conv => arg 2; whnf
                      repeat (first
                        | (refine wpList_put hD hV ?hd ?_; (case hd => decide); clear hD hV; (try clear a); intro a hD hV)
                        | ((first | refine wpList_plain rfl (fun K hK => ?_) | refine wpList_step (fun K hK => ?_)); go_simp; refine hK _ _ ?_; clear hK K)
                        | (refine wp_cond_true ?hc ?_; (case hc => simp [Act.eval, hV, hfs]; done))
                        | (refine wp_cond_false ?hc ?_; (case hc => simp [Act.eval, hV, hfs]; done))
                        | go_step)
                      conv => arg 2; whnf
                      repeat (first
                        | (refine wpList_put hD hV ?hd ?_; (case hd => decide); clear hD hV; (try clear a); intro a hD hV)
                        | ((first | refine wpList_plain rfl (fun K hK => ?_) | refine wpList_step (fun K hK => ?_)); go_simp; refine hK _ _ ?_; clear hK K)
                        | (refine wp_cond_true ?hc ?_; (case hc => simp [Act.eval, hV, hfs]; done))
                        | (refine wp_cond_false ?hc ?_; (case hc => simp [Act.eval, hV, hfs]; done))
                        | go_step)
                      exact HR.out a _ hD hV (by simp [hfs])
                    case false =>
                      cases q14 : ((L 14 : Int) != ((L 1 : Nat) : Int))
                      case true =>
                        refine wp_seq_k (fun K1 hK1 => ?_)
                        conv => arg 2; whnf
                        repeat (first
                          | (refine wpList_put hD hV ?hd ?_; (case hd => decide); clear hD hV; (try clear a); intro a hD hV)
                          | ((first | refine wpList_plain rfl (fun K hK => ?_) | refine wpList_step (fun K hK => ?_)); go_simp; refine hK _ _ ?_; clear hK K)
                          | (refine wp_cond_true ?hc ?_; (case hc => simp [Act.eval, hV, hfs]; done))
                          | (refine wp_cond_false ?hc ?_; (case hc => simp [Act.eval, hV, hfs]; done))
                          | go_step)
                        conv => arg 2; whnf
                        repeat (first
                          | (refine wpList_put hD hV ?hd ?_; (case hd => decide); clear hD hV; (try clear a); intro a hD hV)
                          | ((first | refine wpList_plain rfl (fun K hK => ?_) | refine wpList_step (fun K hK => ?_)); go_simp; refine hK _ _ ?_; clear hK K)
                          | (refine wp_cond_true ?hc ?_; (case hc => simp [Act.eval, hV, hfs]; done))
                          | (refine wp_cond_false ?hc ?_; (case hc => simp [Act.eval, hV, hfs]; done))
                          | go_step)
                        conv => arg 2; whnf
                        repeat (first
                          | (refine wpList_put hD hV ?hd ?_; (case hd => decide); clear hD hV; (try clear a); intro a hD hV)
                          | ((first | refine wpList_plain rfl (fun K hK => ?_) | refine wpList_step (fun K hK => ?_)); go_simp; refine hK _ _ ?_; clear hK K)
                          | (refine wp_cond_true ?hc ?_; (case hc => simp [Act.eval, hV, hfs]; done))
                          | (refine wp_cond_false ?hc ?_; (case hc => simp [Act.eval, hV, hfs]; done))
                          | go_step)
                        conv => arg 2; whnf
                        repeat (first
                          | (refine wpList_put hD hV ?hd ?_; (case hd => decide); clear hD hV; (try clear a); intro a hD hV)
                          | ((first | refine wpList_plain rfl (fun K hK => ?_) | refine wpList_step (fun K hK => ?_)); go_simp; refine hK _ _ ?_; clear hK K)
                          | (refine wp_cond_true ?hc ?_; (case hc => simp [Act.eval, hV, hfs]; done))
                          | (refine wp_cond_false ?hc ?_; (case hc => simp [Act.eval, hV, hfs]; done))
                          | go_step)
                        exact HR.out a _ hD hV (by simp [hfs])
                      case false =>
                        cases q15 : ((L 15 : Int) != ((L 1 : Nat) : Int))
                        case true =>
                          refine wp_seq_k (fun K1 hK1 => ?_)
                          conv => arg 2; whnf
                          repeat (first
                            | (refine wpList_put hD hV ?hd ?_; (case hd => decide); clear hD hV; (try clear a); intro a hD hV)
                            | ((first | refine wpList_plain rfl (fun K hK => ?_) | refine wpList_step (fun K hK => ?_)); go_simp; refine hK _ _ ?_; clear hK K)
                            | (refine wp_cond_true ?hc ?_; (case hc => simp [Act.eval, hV, hfs]; done))
                            | (refine wp_cond_false ?hc ?_; (case hc => simp [Act.eval, hV, hfs]; done))
                            | go_step)
                          conv => arg 2; whnf
                          repeat (first
                            | (refine wpList_put hD hV ?hd ?_; (case hd => decide); clear hD hV; (try clear a); intro a hD hV)
                            | ((first | refine wpList_plain rfl (fun K hK => ?_) | refine wpList_step (fun K hK => ?_)); go_simp; refine hK _ _ ?_; clear hK K)
                            | (refine wp_cond_true ?hc ?_; (case hc => simp [Act.eval, hV, hfs]; done))
                            | (refine wp_cond_false ?hc ?_; (case hc => simp [Act.eval, hV, hfs]; done))
                            | go_step)
                          conv => arg 2; whnf
                          repeat (first
                            | (refine wpList_put hD hV ?hd ?_; (case hd => decide); clear hD hV; (try clear a); intro a hD hV)
                            | ((first | refine wpList_plain rfl (fun K hK => ?_) | refine wpList_step (fun K hK => ?_)); go_simp; refine hK _ _ ?_; clear hK K)
                            | (refine wp_cond_true ?hc ?_; (case hc => simp [Act.eval, hV, hfs]; done))
                            | (refine wp_cond_false ?hc ?_; (case hc => simp [Act.eval, hV, hfs]; done))
                            | go_step)
                          conv => arg 2; whnf
                          repeat (first
                            | (refine wpList_put hD hV ?hd ?_; (case hd => decide); clear hD hV; (try clear a); intro a hD hV)
                            | ((first | refine wpList_plain rfl (fun K hK => ?_) | refine wpList_step (fun K hK => ?_)); go_simp; refine hK _ _ ?_; clear hK K)
                            | (refine wp_cond_true ?hc ?_; (case hc => simp [Act.eval, hV, hfs]; done))
                            | (refine wp_cond_false ?hc ?_; (case hc => simp [Act.eval, hV, hfs]; done))
                            | go_step)
                          exact HR.out a _ hD hV (by simp [hfs])
                        case false =>
                          refine absurd (show LenOk L n from ⟨(by have h := q2; simp only [bne_eq_false_iff_eq] at h; omega), (by have h := q4; simp only [bne_eq_false_iff_eq] at h; omega), (by have h := q6; simp only [bne_eq_false_iff_eq] at h; omega), (by have h := q7; simp only [bne_eq_false_iff_eq] at h; omega), (by have h := q8; simp only [bne_eq_false_iff_eq] at h; omega), (by have h := q9; simp only [bne_eq_false_iff_eq] at h; omega), (by have h := q10; simp only [bne_eq_false_iff_eq] at h; omega), (by have h := q11; simp only [bne_eq_false_iff_eq] at h; omega), (by have h := q12; simp only [bne_eq_false_iff_eq] at h; omega), (by have h := q13; simp only [bne_eq_false_iff_eq] at h; omega), (by have h := q14; simp only [bne_eq_false_iff_eq] at h; omega), (by have h := q15; simp only [bne_eq_false_iff_eq] at h; omega)⟩) HB.out
end
end Go.Proofs.Qxb6616080a
