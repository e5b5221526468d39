import Derived.Test.Qxb6616080aF7h
import Derived.Test.Qxb6616080aBit
namespace Go.Proofs.Qxb6616080a
open Go.RowKit
set_option linter.unusedVariables false
set_option linter.unusedSimpArgs false
set_option maxRecDepth 100000

section
variable {Q : Exit → Act → World → Prop} {W : World} {T : Ad} {E : Env} {D : Dyn} {B S : Nat} {mix : Nat → Nat}

theorem st31 {a : Act} {w : World} {f : Nat → Value} {g9 : Nat} (hR : Rd W B T E D) (hS : Sb W S T E D) (hSB : S < B) (hW : Below B W w) (hB : B ≤ w.heap.size) (hb : Bs T E S f) (h38 : f 38 = .slice (some ⟨g9, 0, none⟩) E.nc E.nc) (hD : a.defers = []) (hV : ∀ j, j < 864 → a.tmps[j]? = some (f j))
    (hNext : ∀ (a : Act) (f : Nat → Value), a.defers = [] → (∀ j, j < 864 → a.tmps[j]? = some (f j)) → Bs T E S f → f 38 = .slice (some ⟨g9, 0, none⟩) E.nc E.nc → f 47 = .slice (T.A 16) E.nl (T.cap 16) → Q .normal a w) :
    Code.wp Try.prog (sub [1, 1, 1, 1, 1, 1, 1, 1, 1, 1, 1, 1, 1, 1, 1, 1, 1, 1, 1, 1, 1, 1, 1, 1, 1, 1, 1, 1, 1, 1, 1, 0] (Try.f7.body.getD .skip)) Q a w := by
  have hfs := fset_at
  obtain ⟨h0, h3, h5, h6, h7⟩ := hb
  have HN := hide hNext
  have s16 : w.cell? ⟨S, 16, none⟩ = some (.slice (T.A 16) E.nl (T.cap 16)) := hS.below hW hSB 16 (by decide)
  clear hNext hW hR hS
  conv => arg 2; whnf
  repeat (first
    | (refine wpList_put hD hV ?hd ?_; (case hd => decide); clear hD hV; (try clear a); intro a hD hV)
    | ((first | refine wpList_plain rfl (fun K hK => ?_) | refine wpList_step (fun K hK => ?_)); go_simp; refine hK _ _ ?_; clear hK K)
    | (refine wp_cond_true ?hc ?_; (case hc => simp [Act.eval, hV, hfs]; done))
    | (refine wp_cond_false ?hc ?_; (case hc => simp [Act.eval, hV, hfs]; done))
    | go_step)
  exact HN.out a _ hD hV ⟨by simp [hfs, h0], by simp [hfs, h3], by simp [hfs, h5], by simp [hfs, h6], by simp [hfs, h7]⟩ (by simp [hfs, h38]) (by simp [hfs])

theorem st32 {a : Act} {w : World} {f : Nat → Value} {g9 : Nat} (hR : Rd W B T E D) (hS : Sb W S T E D) (hSB : S < B) (hW : Below B W w) (hB : B ≤ w.heap.size) (hb : Bs T E S f) (h38 : f 38 = .slice (some ⟨g9, 0, none⟩) E.nc E.nc) (h47 : f 47 = .slice (T.A 16) E.nl (T.cap 16)) (hD : a.defers = []) (hV : ∀ j, j < 864 → a.tmps[j]? = some (f j))
    (hNext : ∀ (a : Act) (f : Nat → Value), a.defers = [] → (∀ j, j < 864 → a.tmps[j]? = some (f j)) → Bs T E S f → f 38 = .slice (some ⟨g9, 0, none⟩) E.nc E.nc → f 47 = .slice (T.A 16) E.nl (T.cap 16) → 0 < E.nl → E.nc ≤ 64 * E.ll 0 → Q .normal a w)
    (hRet : ∀ (a : Act) (f : Nat → Value) (w : World), a.defers = [] → (∀ j, j < 864 → a.tmps[j]? = some (f j)) → f 4 = .bool false → Below B W w → ¬ Holds E D mix → Q .ret a w) : Code.wp Try.prog (sub [1, 1, 1, 1, 1, 1, 1, 1, 1, 1, 1, 1, 1, 1, 1, 1, 1, 1, 1, 1, 1, 1, 1, 1, 1, 1, 1, 1, 1, 1, 1, 1, 0] (Try.f7.body.getD .skip)) Q a w := by
  have hfs := fset_at
  obtain ⟨h0, h3, h5, h6, h7⟩ := hb
  have HN := hide hNext
  have HR := hide hRet
  have HW := hide hW
  have HRw := hide (hR.below hW)
  clear hNext hRet hW hR hS
  conv => arg 2; whnf
  cases q1 : ((E.nl : Int) == 0)
  case true =>
    repeat (first
      | (refine wpList_put hD hV ?hd ?_; (case hd => decide); clear hD hV; (try clear a); intro a hD hV)
      | ((first | refine wpList_plain rfl (fun K hK => ?_) | refine wpList_step (fun K hK => ?_)); go_simp; refine hK _ _ ?_; clear hK K)
      | (refine wp_cond_true ?hc ?_; (case hc => simp [Act.eval, hV, hfs]; done))
      | (refine wp_cond_false ?hc ?_; (case hc => simp [Act.eval, hV, hfs]; done))
      | go_step)
    exact HR.out a _ _ hD hV (by simp [hfs]) HW.out (fun h => by have := h.lv.1; simp at q1; omega)
  case false =>
    have hnl : 0 < E.nl := by simp at q1; omega
    have n16 := HRw.out.n16 hnl
    have d16 := HRw.out.d16 0 hnl
    simp only [Nat.add_zero] at d16
    have hll := HRw.out.m_ll 0 hnl
    have e1 : IntKind.i64.wrap (64 * (E.ll 0 : Int)) = 64 * (E.ll 0 : Int) := wrap64 (by unfold i64; omega)
    by_cases q2 : 64 * (E.ll 0 : Int) < (E.nc : Int)
    · repeat (first
        | (refine wpList_put hD hV ?hd ?_; (case hd => decide); clear hD hV; (try clear a); intro a hD hV)
        | ((first | refine wpList_plain rfl (fun K hK => ?_) | refine wpList_step (fun K hK => ?_)); go_simp; refine hK _ _ ?_; clear hK K)
        | (refine wp_cond_true ?hc ?_; (case hc => simp [Act.eval, hV, hfs]; done))
        | (refine wp_cond_false ?hc ?_; (case hc => simp [Act.eval, hV, hfs]; done))
        | go_step)
      refine HR.out a _ _ hD hV (by simp [hfs]) HW.out (fun h => ?_)
      have h1 := h.lv.2
      obtain ⟨n, hn⟩ : ∃ n, E.nl = n + 1 := ⟨E.nl - 1, by omega⟩
      rw [hn] at h1
      have := h1.1
      omega
    · repeat (first
        | (refine wpList_put hD hV ?hd ?_; (case hd => decide); clear hD hV; (try clear a); intro a hD hV)
        | ((first | refine wpList_plain rfl (fun K hK => ?_) | refine wpList_step (fun K hK => ?_)); go_simp; refine hK _ _ ?_; clear hK K)
        | (refine wp_cond_true ?hc ?_; (case hc => simp [Act.eval, hV, hfs]; done))
        | (refine wp_cond_false ?hc ?_; (case hc => simp [Act.eval, hV, hfs]; done))
        | go_step)
      exact HN.out a _ hD hV ⟨by simp [hfs, h0], by simp [hfs, h3], by simp [hfs, h5], by simp [hfs, h6], by simp [hfs, h7]⟩ (by simp [hfs, h38]) (by simp [hfs, h47]) hnl (by omega)

set_option maxHeartbeats 1000000 in
theorem st33 {a : Act} {w : World} {f : Nat → Value} {g9 : Nat} (hR : Rd W B T E D) (hS : Sb W S T E D) (hSB : S < B) (hW : Below B W w) (hB : B ≤ w.heap.size) (hb : Bs T E S f) (h38 : f 38 = .slice (some ⟨g9, 0, none⟩) E.nc E.nc) (h47 : f 47 = .slice (T.A 16) E.nl (T.cap 16)) (ho : Own B w g9 E.nc 4 (fun c => .bool (E.chosen c (D.next c)))) (hnl : 0 < E.nl) (hD : a.defers = []) (hV : ∀ j, j < 864 → a.tmps[j]? = some (f j))
    (hNext : ∀ (a : Act) (f : Nat → Value), a.defers = [] → (∀ j, j < 864 → a.tmps[j]? = some (f j)) → Bs T E S f → f 47 = .slice (T.A 16) E.nl (T.cap 16) → (∀ j, j < 64 * E.ll 0 → (D.lw 0 (j / 64)).testBit (j % 64) = (decide (j < E.nc) && E.chosen j (D.next j))) → Q .normal a w)
    (hRet : ∀ (a : Act) (f : Nat → Value) (w : World), a.defers = [] → (∀ j, j < 864 → a.tmps[j]? = some (f j)) → f 4 = .bool false → Below B W w → ¬ Holds E D mix → Q .ret a w) : Code.wp Try.prog (sub [1, 1, 1, 1, 1, 1, 1, 1, 1, 1, 1, 1, 1, 1, 1, 1, 1, 1, 1, 1, 1, 1, 1, 1, 1, 1, 1, 1, 1, 1, 1, 1, 1, 0] (Try.f7.body.getD .skip)) Q a w := by
  have hfs := fset_at
  obtain ⟨h0, h3, h5, h6, h7⟩ := hb
  have HN := hide hNext
  have HR := hide hRet
  have HW := hide hW
  have HO := hide ho
  have HRw := hide (hR.below hW)
  have n16 := hR.n16 hnl
  have d16 := HRw.out.d16 0 hnl
  simp only [Nat.add_zero] at d16
  have hll := hR.m_ll 0 hnl
  have e1 : IntKind.i64.wrap (64 * (E.ll 0 : Int)) = 64 * (E.ll 0 : Int) := wrap64 (by unfold i64; omega)
  clear hNext hRet hW hR hS ho
  conv => arg 2; whnf
  repeat (first
    | (refine wpList_put hD hV ?hd ?_; (case hd => decide); clear hD hV; (try clear a); intro a hD hV)
    | ((first | refine wpList_plain rfl (fun K hK => ?_) | refine wpList_step (fun K hK => ?_)); go_simp; refine hK _ _ ?_; clear hK K)
    | (refine wp_cond_true ?hc ?_; (case hc => simp [Act.eval, hV, hfs]; done))
    | (refine wp_cond_false ?hc ?_; (case hc => simp [Act.eval, hV, hfs]; done))
    | go_step)
  refine wp_loop_f (N := 864) (fun m f w' => ∃ (k : Nat), k ≤ 64 * E.ll 0 ∧ m = 64 * E.ll 0 - k ∧ w' = w ∧ f 48 = .int .i64 (k : Nat) ∧ Bs T E S f ∧ f 38 = .slice (some ⟨g9, 0, none⟩) E.nc E.nc ∧ f 47 = .slice (T.A 16) E.nl (T.cap 16) ∧
    (∀ j, j < k → (D.lw 0 (j / 64)).testBit (j % 64) = (decide (j < E.nc) && E.chosen j (D.next j)))) (64 * E.ll 0) hD hV
    ⟨0, by omega, by omega, rfl, by simp [hfs], ⟨by simp [hfs, h0], by simp [hfs, h3], by simp [hfs, h5], by simp [hfs, h6], by simp [hfs, h7]⟩, by simp [hfs, h38], by simp [hfs, h47], fun _ h => by omega⟩ ?_
  clear h0 h3 h5 h6 h7 h38 h47 hD hV a f
  intro m f w' a hD hV ⟨k, hk, hm', hw, h48, hb, h38, h47, hI⟩ K hK
  obtain rfl : w = w' := hw.symm
  obtain ⟨h0, h3, h5, h6, h7⟩ := hb
  have HK := hide hK
  have HI := hide hI
  clear hK hI hw
  by_cases hkn : k < 64 * E.ll 0
  · have ln := HRw.out.ln 0 hnl (by omega)
    have e4 : IntKind.i64.wrap ((k : Int) + 1) = (k : Int) + 1 := wrap64 (by unfold i64; omega)
    have kz : (k : Int) < 64 * (E.ll 0 : Int) := by omega
    obtain ⟨d, hd⟩ : ∃ d, k / 64 = d := ⟨_, rfl⟩
    obtain ⟨r, hr⟩ : ∃ r, k % 64 = r := ⟨_, rfl⟩
    have hdl : d < E.ll 0 := by omega
    have hr64 : r < 64 := by omega
    have hd2 : (k : Int) / 64 = (d : Int) := by omega
    have hr2 : (k : Int) % 64 = (r : Int) := by omega
    have hr3 : (k : Int).tmod 64 = (r : Int) := by rw [Int.tmod_eq_emod_of_nonneg (by omega)]; exact hr2
    have wd : IntKind.i64.wrap (d : Int) = (d : Int) := wrap64 (by unfold i64; omega)
    have ld := HRw.out.ld 0 hnl d hdl
    have hx := HRw.out.r_lw 0 hnl d hdl
    generalize hxx : D.lw 0 d = x at ld hx
    have HX := hide hxx
    clear hxx
    have bt := bit_read (r := r) hx
    have dl2 : (d : Int) < (E.ll 0 : Int) := by omega
    have fin : Hid (∀ (g : Nat → Value) (a : Act), a.defers = [] → (∀ j, j < 864 → a.tmps[j]? = some (g j)) → g 48 = .int .i64 ((k : Int) + 1) → Bs T E S g → g 38 = .slice (some ⟨g9, 0, none⟩) E.nc E.nc → g 47 = .slice (T.A 16) E.nl (T.cap 16) → x.testBit r = (decide (k < E.nc) && E.chosen k (D.next k)) → K a w) := by
      intro g a h1 h2 h3 h4 h5 h6 h7
      refine HK.out a _ g (64 * E.ll 0 - (k + 1)) h1 h2 (by omega) ⟨k + 1, by omega, rfl, rfl, by simp [h3], h4, h5, h6, fun j hj => ?_⟩
      by_cases e : j = k
      · subst e; rw [hd, hr, HX.out]; exact h7
      · exact HI.out j (by omega)
    have bad : Hid (∀ h : Holds E D mix, x.testBit r = (decide (k < E.nc) && E.chosen k (D.next k))) := fun h => by
      have h1 := h.lv.2
      obtain ⟨n, hn⟩ : ∃ n, E.nl = n + 1 := ⟨E.nl - 1, by omega⟩
      rw [hn] at h1
      have := h1.2.1 k hkn
      rw [hd, hr, HX.out] at this
      exact this
    have HFIN := fin
    clear HX
    by_cases q1 : (k : Int) < (E.nc : Int)
    · have c1 := HO.out.arr.cell (show k < E.nc by omega)
      have hkc : decide (k < E.nc) = true := decide_eq_true (by omega)
      cases q2 : x.testBit r <;> cases q3 : E.chosen k (D.next k) <;> simp only [q2, if_true, if_false, Bool.false_eq_true] at bt
      · repeat (first
          | (refine wpList_put hD hV ?hd ?_; (case hd => decide); clear hD hV; (try clear a); intro a hD hV)
          | ((first | refine wpList_plain rfl (fun K hK => ?_) | refine wpList_step (fun K hK => ?_)); go_simp; refine hK _ _ ?_; clear hK K)
          | (refine wp_cond_true ?hc ?_; (case hc => simp [Act.eval, hV, hfs]; done))
          | (refine wp_cond_false ?hc ?_; (case hc => simp [Act.eval, hV, hfs]; done))
          | go_step)
        exact fin.out _ a hD hV (by simp [hfs]) ⟨by simp [hfs, h0], by simp [hfs, h3], by simp [hfs, h5], by simp [hfs, h6], by simp [hfs, h7]⟩ (by simp [hfs, h38]) (by simp [hfs, h47]) (by rw [q2, q3, hkc]; rfl)
      · repeat (first
          | (refine wpList_put hD hV ?hd ?_; (case hd => decide); clear hD hV; (try clear a); intro a hD hV)
          | ((first | refine wpList_plain rfl (fun K hK => ?_) | refine wpList_step (fun K hK => ?_)); go_simp; refine hK _ _ ?_; clear hK K)
          | (refine wp_cond_true ?hc ?_; (case hc => simp [Act.eval, hV, hfs]; done))
          | (refine wp_cond_false ?hc ?_; (case hc => simp [Act.eval, hV, hfs]; done))
          | go_step)
        exact HR.out a _ _ hD hV (by simp [hfs]) HW.out (fun h => by have := bad.out h; rw [q2, q3, hkc] at this; cases this)
      · repeat (first
          | (refine wpList_put hD hV ?hd ?_; (case hd => decide); clear hD hV; (try clear a); intro a hD hV)
          | ((first | refine wpList_plain rfl (fun K hK => ?_) | refine wpList_step (fun K hK => ?_)); go_simp; refine hK _ _ ?_; clear hK K)
          | (refine wp_cond_true ?hc ?_; (case hc => simp [Act.eval, hV, hfs]; done))
          | (refine wp_cond_false ?hc ?_; (case hc => simp [Act.eval, hV, hfs]; done))
          | go_step)
        exact HR.out a _ _ hD hV (by simp [hfs]) HW.out (fun h => by have := bad.out h; rw [q2, q3, hkc] at this; cases this)
      · repeat (first
          | (refine wpList_put hD hV ?hd ?_; (case hd => decide); clear hD hV; (try clear a); intro a hD hV)
          | ((first | refine wpList_plain rfl (fun K hK => ?_) | refine wpList_step (fun K hK => ?_)); go_simp; refine hK _ _ ?_; clear hK K)
          | (refine wp_cond_true ?hc ?_; (case hc => simp [Act.eval, hV, hfs]; done))
          | (refine wp_cond_false ?hc ?_; (case hc => simp [Act.eval, hV, hfs]; done))
          | go_step)
        exact fin.out _ a hD hV (by simp [hfs]) ⟨by simp [hfs, h0], by simp [hfs, h3], by simp [hfs, h5], by simp [hfs, h6], by simp [hfs, h7]⟩ (by simp [hfs, h38]) (by simp [hfs, h47]) (by rw [q2, q3, hkc]; rfl)
    · have hkc : decide (k < E.nc) = false := decide_eq_false (by omega)
      cases q2 : x.testBit r <;> simp only [q2, if_true, if_false, Bool.false_eq_true] at bt
      · repeat (first
          | (refine wpList_put hD hV ?hd ?_; (case hd => decide); clear hD hV; (try clear a); intro a hD hV)
          | ((first | refine wpList_plain rfl (fun K hK => ?_) | refine wpList_step (fun K hK => ?_)); go_simp; refine hK _ _ ?_; clear hK K)
          | (refine wp_cond_true ?hc ?_; (case hc => simp [Act.eval, hV, hfs]; done))
          | (refine wp_cond_false ?hc ?_; (case hc => simp [Act.eval, hV, hfs]; done))
          | go_step)
        exact fin.out _ a hD hV (by simp [hfs]) ⟨by simp [hfs, h0], by simp [hfs, h3], by simp [hfs, h5], by simp [hfs, h6], by simp [hfs, h7]⟩ (by simp [hfs, h38]) (by simp [hfs, h47]) (by rw [q2, hkc]; rfl)
      · repeat (first
          | (refine wpList_put hD hV ?hd ?_; (case hd => decide); clear hD hV; (try clear a); intro a hD hV)
          | ((first | refine wpList_plain rfl (fun K hK => ?_) | refine wpList_step (fun K hK => ?_)); go_simp; refine hK _ _ ?_; clear hK K)
          | (refine wp_cond_true ?hc ?_; (case hc => simp [Act.eval, hV, hfs]; done))
          | (refine wp_cond_false ?hc ?_; (case hc => simp [Act.eval, hV, hfs]; done))
          | go_step)
        exact HR.out a _ _ hD hV (by simp [hfs]) HW.out (fun h => by have := bad.out h; rw [q2, hkc] at this; cases this)
  · have kz : ¬ (k : Int) < 64 * (E.ll 0 : Int) := by omega
    repeat (first
      | (refine wpList_put hD hV ?hd ?_; (case hd => decide); clear hD hV; (try clear a); intro a hD hV)
      | ((first | refine wpList_plain rfl (fun K hK => ?_) | refine wpList_step (fun K hK => ?_)); go_simp; refine hK _ _ ?_; clear hK K)
      | (refine wp_cond_true ?hc ?_; (case hc => simp [Act.eval, hV, hfs]; done))
      | (refine wp_cond_false ?hc ?_; (case hc => simp [Act.eval, hV, hfs]; done))
      | go_step)
    exact HN.out a _ hD hV ⟨by simp [hfs, h0], by simp [hfs, h3], by simp [hfs, h5], by simp [hfs, h6], by simp [hfs, h7]⟩ (by simp [hfs, h47]) (fun j hj => HI.out j (by omega))

/-- What level l + 1 must be. -/
def LevAt (E : Env) (D : Dyn) (l : Nat) : Prop := E.ll l ≤ 64 * E.ll (l + 1) ∧ ∀ j, j < 64 * E.ll (l + 1) → (D.lw (l + 1) (j / 64)).testBit (j % 64) = (decide (j < E.ll l) && !(D.lw l j == 0))
theorem levOk_of {ll : Nat → Nat} {g : Nat → Nat → Nat} : ∀ (fuel l m : Nat) (p : Nat → Bool), (0 < fuel → m ≤ 64 * ll l ∧ ∀ j, j < 64 * ll l → (g l (j / 64)).testBit (j % 64) = (decide (j < m) && p j)) →
    (∀ i, i + 1 < fuel → ll (l + i) ≤ 64 * ll (l + i + 1) ∧ ∀ j, j < 64 * ll (l + i + 1) → (g (l + i + 1) (j / 64)).testBit (j % 64) = (decide (j < ll (l + i)) && !(g (l + i) j == 0))) → LevOk ll fuel l m p g
  | 0, _, _, _, _, _ => trivial
  | fuel + 1, l, m, p, h0, h1 => by
    refine ⟨(h0 (by omega)).1, (h0 (by omega)).2, levOk_of fuel (l + 1) (ll l) _ (fun hf => ?_) (fun i hi => ?_)⟩
    · have := h1 0 (by omega)
      simpa using this
    · have := h1 (i + 1) (by omega)
      have e : l + (i + 1) = l + 1 + i := by omega
      rw [e] at this
      exact this
theorem levOk_get {ll : Nat → Nat} {g : Nat → Nat → Nat} : ∀ (fuel l m : Nat) (p : Nat → Bool), LevOk ll fuel l m p g → ∀ i, i + 1 < fuel → ll (l + i) ≤ 64 * ll (l + i + 1) ∧ ∀ j, j < 64 * ll (l + i + 1) → (g (l + i + 1) (j / 64)).testBit (j % 64) = (decide (j < ll (l + i)) && !(g (l + i) j == 0))
  | 0, _, _, _, _, i, hi => by omega
  | fuel + 1, l, m, p, ⟨h1, h2, h3⟩, i, hi => by
    cases i with
    | zero =>
      cases fuel with
      | zero => omega
      | succ fuel => exact ⟨h3.1, h3.2.1⟩
    | succ i =>
      have := levOk_get fuel (l + 1) (ll l) _ h3 i (by omega)
      have e : l + (i + 1) = l + 1 + i := by omega
      rw [e]
      exact this
theorem Holds.lev (h : Holds E D mix) {l : Nat} (hl : l + 1 < E.nl) : LevAt E D l := by
  have := levOk_get _ _ _ _ h.lv.2 l hl
  simpa [LevAt] using this

set_option maxHeartbeats 4000000 in
theorem st34 {a : Act} {w : World} {f : Nat → Value} (hR : Rd W B T E D) (hS : Sb W S T E D) (hSB : S < B) (hW : Below B W w) (hB : B ≤ w.heap.size) (hb : Bs T E S f) (h47 : f 47 = .slice (T.A 16) E.nl (T.cap 16)) (hnl : 0 < E.nl) (hD : a.defers = []) (hV : ∀ j, j < 864 → a.tmps[j]? = some (f j))
    (hNext : ∀ (a : Act) (f : Nat → Value), a.defers = [] → (∀ j, j < 864 → a.tmps[j]? = some (f j)) → Bs T E S f → (∀ l, l + 1 < E.nl → LevAt E D l) → Q .normal a w)
    (hRet : ∀ (a : Act) (f : Nat → Value) (w : World), a.defers = [] → (∀ j, j < 864 → a.tmps[j]? = some (f j)) → f 4 = .bool false → Below B W w → ¬ Holds E D mix → Q .ret a w) : Code.wp Try.prog (sub [1, 1, 1, 1, 1, 1, 1, 1, 1, 1, 1, 1, 1, 1, 1, 1, 1, 1, 1, 1, 1, 1, 1, 1, 1, 1, 1, 1, 1, 1, 1, 1, 1, 1, 0] (Try.f7.body.getD .skip)) Q a w := by
  have hfs := fset_at
  obtain ⟨h0, h3, h5, h6, h7⟩ := hb
  have HN := hide hNext
  have HR := hide hRet
  have HW := hide hW
  have HRw := hide (hR.below hW)
  have n16 := hR.n16 hnl
  have m3 := hR.m_nl
  clear hNext hRet hW hR hS
  conv => arg 2; whnf
  repeat (first
    | (refine wpList_put hD hV ?hd ?_; (case hd => decide); clear hD hV; (try clear a); intro a hD hV)
    | ((first | refine wpList_plain rfl (fun K hK => ?_) | refine wpList_step (fun K hK => ?_)); go_simp; refine hK _ _ ?_; clear hK K)
    | (refine wp_cond_true ?hc ?_; (case hc => simp [Act.eval, hV, hfs]; done))
    | (refine wp_cond_false ?hc ?_; (case hc => simp [Act.eval, hV, hfs]; done))
    | go_step)
  refine wp_loop_f (N := 864) (fun m f w' => ∃ (l : Nat), l + 1 ≤ E.nl ∧ m = E.nl - l ∧ w' = w ∧ f 50 = .int .i64 ((l : Int) + 1) ∧ Bs T E S f ∧ f 47 = .slice (T.A 16) E.nl (T.cap 16) ∧ (∀ l', l' < l → LevAt E D l')) E.nl hD hV
    ⟨0, by omega, by omega, rfl, by simp [hfs], ⟨by simp [hfs, h0], by simp [hfs, h3], by simp [hfs, h5], by simp [hfs, h6], by simp [hfs, h7]⟩, by simp [hfs, h47], fun _ h => by omega⟩ ?_
  clear h0 h3 h5 h6 h7 h47 hD hV a f
  intro m f w' a hD hV ⟨l, hl, hm', hw, h50, hb, h47, hI⟩ K hK
  obtain rfl : w = w' := hw.symm
  obtain ⟨h0, h3, h5, h6, h7⟩ := hb
  have HK := hide hK
  have HI := hide hI
  clear hK hI hw
  by_cases hln : l + 1 < E.nl
  · have lz : (l : Int) + 1 < (E.nl : Int) := by omega
    have d1 := HRw.out.d16 l (by omega)
    have d2 := HRw.out.d16 (l + 1) hln
    have hml := HRw.out.m_ll l (by omega)
    have hml2 := HRw.out.m_ll (l + 1) hln
    have t1 : IntKind.i64.wrap ((l : Int) + 1 - 1) = (l : Int) := by rw [show (l : Int) + 1 - 1 = (l : Int) by omega]; exact wrap64 (by unfold i64; omega)
    have t2 : ((l : Int) + 1).toNat = l + 1 := by omega
    have t3 : IntKind.i64.wrap ((l : Int) + 1 + 1) = (l : Int) + 1 + 1 := wrap64 (by unfold i64; omega)
    have t4 : (0 : Int) ≤ (l : Int) + 1 := by omega
    have t5 : (l : Int) < (E.nl : Int) := by omega
    have t6 : IntKind.i64.wrap (l : Int) = (l : Int) := wrap64 (by unfold i64; omega)
    have e1 : IntKind.i64.wrap (64 * (E.ll (l + 1) : Int)) = 64 * (E.ll (l + 1) : Int) := wrap64 (by unfold i64; omega)
    by_cases q1 : 64 * (E.ll (l + 1) : Int) < (E.ll l : Int)
    · repeat (first
        | (refine wpList_put hD hV ?hd ?_; (case hd => decide); clear hD hV; (try clear a); intro a hD hV)
        | ((first | refine wpList_plain rfl (fun K hK => ?_) | refine wpList_step (fun K hK => ?_)); go_simp; refine hK _ _ ?_; clear hK K)
        | (refine wp_cond_true ?hc ?_; (case hc => simp [Act.eval, hV, hfs]; done))
        | (refine wp_cond_false ?hc ?_; (case hc => simp [Act.eval, hV, hfs]; done))
        | go_step)
      exact HR.out a _ _ hD hV (by simp [hfs]) HW.out (fun h => by have := (h.lev hln).1; omega)
    · repeat (first
        | (refine wpList_put hD hV ?hd ?_; (case hd => decide); clear hD hV; (try clear a); intro a hD hV)
        | ((first | refine wpList_plain rfl (fun K hK => ?_) | refine wpList_step (fun K hK => ?_)); go_simp; refine hK _ _ ?_; clear hK K)
        | (refine wp_cond_true ?hc ?_; (case hc => simp [Act.eval, hV, hfs]; done))
        | (refine wp_cond_false ?hc ?_; (case hc => simp [Act.eval, hV, hfs]; done))
        | go_step)
      refine wp_loop_f (N := 864) (fun m f w' => ∃ (k : Nat), k ≤ 64 * E.ll (l + 1) ∧ m = 64 * E.ll (l + 1) - k ∧ w' = w ∧ f 52 = .int .i64 (k : Nat) ∧ f 50 = .int .i64 ((l : Int) + 1) ∧ f 51 = .slice (T.lA l) (E.ll l) (T.lc l) ∧ Bs T E S f ∧ f 47 = .slice (T.A 16) E.nl (T.cap 16) ∧
        (∀ j, j < k → (D.lw (l + 1) (j / 64)).testBit (j % 64) = (decide (j < E.ll l) && !(D.lw l j == 0)))) (64 * E.ll (l + 1)) hD hV
        ⟨0, by omega, by omega, rfl, by simp [hfs], by simp [hfs, h50], by simp [hfs], ⟨by simp [hfs, h0], by simp [hfs, h3], by simp [hfs, h5], by simp [hfs, h6], by simp [hfs, h7]⟩, by simp [hfs, h47], fun _ h => by omega⟩ ?_
      clear h0 h3 h5 h6 h7 h47 h50 hD hV a f
      intro m2 f w2 a hD hV ⟨k, hk, hm2, hw, h52, h50, h51, hb, h47, hI2⟩ K2 hK2
      obtain rfl : w = w2 := hw.symm
      obtain ⟨h0, h3, h5, h6, h7⟩ := hb
      have HK2 := hide hK2
      have HI2 := hide hI2
      clear hK2 hI2 hw
      by_cases hkn : k < 64 * E.ll (l + 1)
      · have ln := HRw.out.ln (l + 1) hln (by omega)
        have e4 : IntKind.i64.wrap ((k : Int) + 1) = (k : Int) + 1 := wrap64 (by unfold i64; omega)
        have kz : (k : Int) < 64 * (E.ll (l + 1) : Int) := by omega
        obtain ⟨d, hd⟩ : ∃ d, k / 64 = d := ⟨_, rfl⟩
        obtain ⟨r, hr⟩ : ∃ r, k % 64 = r := ⟨_, rfl⟩
        have hdl : d < E.ll (l + 1) := by omega
        have hr64 : r < 64 := by omega
        have hd2 : (k : Int) / 64 = (d : Int) := by omega
        have hr2 : (k : Int) % 64 = (r : Int) := by omega
        have hr3 : (k : Int).tmod 64 = (r : Int) := by rw [Int.tmod_eq_emod_of_nonneg (by omega)]; exact hr2
        have wd : IntKind.i64.wrap (d : Int) = (d : Int) := wrap64 (by unfold i64; omega)
        have ld := HRw.out.ld (l + 1) hln d hdl
        have hx := HRw.out.r_lw (l + 1) hln d hdl
        generalize hxx : D.lw (l + 1) d = x at ld hx
        have HX := hide hxx
        clear hxx
        have bt := bit_read (r := r) hx
        have dl2 : (d : Int) < (E.ll (l + 1) : Int) := by omega
        have fin : Hid (∀ (g : Nat → Value) (a : Act), a.defers = [] → (∀ j, j < 864 → a.tmps[j]? = some (g j)) → g 52 = .int .i64 ((k : Int) + 1) → g 50 = .int .i64 ((l : Int) + 1) → g 51 = .slice (T.lA l) (E.ll l) (T.lc l) → Bs T E S g → g 47 = .slice (T.A 16) E.nl (T.cap 16) → x.testBit r = (decide (k < E.ll l) && !(D.lw l k == 0)) → K2 a w) := by
          intro g a h1 h2 h3 h3' h3'' h4 h6 h7
          refine HK2.out a _ g (64 * E.ll (l + 1) - (k + 1)) h1 h2 (by omega) ⟨k + 1, by omega, rfl, rfl, by simp [h3], h3', h3'', h4, h6, fun j hj => ?_⟩
          by_cases e : j = k
          · subst e; rw [hd, hr, HX.out]; exact h7
          · exact HI2.out j (by omega)
        have bad : Hid (∀ h : Holds E D mix, x.testBit r = (decide (k < E.ll l) && !(D.lw l k == 0))) := fun h => by
          have := (h.lev hln).2 k hkn
          rw [hd, hr, HX.out] at this
          exact this
        clear HX
        by_cases q2 : (k : Int) < (E.ll l : Int)
        · have hkl : k < E.ll l := by omega
          have ln2 := HRw.out.ln l (by omega) (by omega)
          have ld2 := HRw.out.ld l (by omega) k hkl
          have hkc : decide (k < E.ll l) = true := decide_eq_true hkl
          generalize hyy : D.lw l k = y at ld2 fin bad
          clear hyy
          cases q3 : x.testBit r <;> cases q4 : ((y : Int) != 0) <;> simp only [q3, if_true, if_false, Bool.false_eq_true] at bt
          · have q5 : y = 0 := by simpa using q4
            repeat (first
              | (refine wpList_put hD hV ?hd ?_; (case hd => decide); clear hD hV; (try clear a); intro a hD hV)
              | ((first | refine wpList_plain rfl (fun K hK => ?_) | refine wpList_step (fun K hK => ?_)); go_simp; refine hK _ _ ?_; clear hK K)
              | (refine wp_cond_true ?hc ?_; (case hc => simp [Act.eval, hV, hfs]; done))
              | (refine wp_cond_false ?hc ?_; (case hc => simp [Act.eval, hV, hfs]; done))
              | go_step)
            exact fin.out _ a hD hV (by simp [hfs]) (by simp [hfs, h50]) (by simp [hfs, h51]) ⟨by simp [hfs, h0], by simp [hfs, h3], by simp [hfs, h5], by simp [hfs, h6], by simp [hfs, h7]⟩ (by simp [hfs, h47]) (by rw [q3, hkc]; simp [q5])
          · have q5 : y ≠ 0 := by simpa using q4
            repeat (first
              | (refine wpList_put hD hV ?hd ?_; (case hd => decide); clear hD hV; (try clear a); intro a hD hV)
              | ((first | refine wpList_plain rfl (fun K hK => ?_) | refine wpList_step (fun K hK => ?_)); go_simp; refine hK _ _ ?_; clear hK K)
              | (refine wp_cond_true ?hc ?_; (case hc => simp [Act.eval, hV, hfs]; done))
              | (refine wp_cond_false ?hc ?_; (case hc => simp [Act.eval, hV, hfs]; done))
              | go_step)
            exact HR.out a _ _ hD hV (by simp [hfs]) HW.out (fun h => by have := bad.out h; rw [q3, hkc] at this; simp [q5] at this)
          · have q5 : y = 0 := by simpa using q4
            repeat (first
              | (refine wpList_put hD hV ?hd ?_; (case hd => decide); clear hD hV; (try clear a); intro a hD hV)
              | ((first | refine wpList_plain rfl (fun K hK => ?_) | refine wpList_step (fun K hK => ?_)); go_simp; refine hK _ _ ?_; clear hK K)
              | (refine wp_cond_true ?hc ?_; (case hc => simp [Act.eval, hV, hfs]; done))
              | (refine wp_cond_false ?hc ?_; (case hc => simp [Act.eval, hV, hfs]; done))
              | go_step)
            exact HR.out a _ _ hD hV (by simp [hfs]) HW.out (fun h => by have := bad.out h; rw [q3, hkc] at this; simp [q5] at this)
          · have q5 : y ≠ 0 := by simpa using q4
            repeat (first
              | (refine wpList_put hD hV ?hd ?_; (case hd => decide); clear hD hV; (try clear a); intro a hD hV)
              | ((first | refine wpList_plain rfl (fun K hK => ?_) | refine wpList_step (fun K hK => ?_)); go_simp; refine hK _ _ ?_; clear hK K)
              | (refine wp_cond_true ?hc ?_; (case hc => simp [Act.eval, hV, hfs]; done))
              | (refine wp_cond_false ?hc ?_; (case hc => simp [Act.eval, hV, hfs]; done))
              | go_step)
            exact fin.out _ a hD hV (by simp [hfs]) (by simp [hfs, h50]) (by simp [hfs, h51]) ⟨by simp [hfs, h0], by simp [hfs, h3], by simp [hfs, h5], by simp [hfs, h6], by simp [hfs, h7]⟩ (by simp [hfs, h47]) (by rw [q3, hkc]; simp [q5])
        · have hkc : decide (k < E.ll l) = false := decide_eq_false (by omega)
          cases q3 : x.testBit r <;> simp only [q3, if_true, if_false, Bool.false_eq_true] at bt
          · repeat (first
              | (refine wpList_put hD hV ?hd ?_; (case hd => decide); clear hD hV; (try clear a); intro a hD hV)
              | ((first | refine wpList_plain rfl (fun K hK => ?_) | refine wpList_step (fun K hK => ?_)); go_simp; refine hK _ _ ?_; clear hK K)
              | (refine wp_cond_true ?hc ?_; (case hc => simp [Act.eval, hV, hfs]; done))
              | (refine wp_cond_false ?hc ?_; (case hc => simp [Act.eval, hV, hfs]; done))
              | go_step)
            exact fin.out _ a hD hV (by simp [hfs]) (by simp [hfs, h50]) (by simp [hfs, h51]) ⟨by simp [hfs, h0], by simp [hfs, h3], by simp [hfs, h5], by simp [hfs, h6], by simp [hfs, h7]⟩ (by simp [hfs, h47]) (by rw [q3, hkc]; rfl)
          · repeat (first
              | (refine wpList_put hD hV ?hd ?_; (case hd => decide); clear hD hV; (try clear a); intro a hD hV)
              | ((first | refine wpList_plain rfl (fun K hK => ?_) | refine wpList_step (fun K hK => ?_)); go_simp; refine hK _ _ ?_; clear hK K)
              | (refine wp_cond_true ?hc ?_; (case hc => simp [Act.eval, hV, hfs]; done))
              | (refine wp_cond_false ?hc ?_; (case hc => simp [Act.eval, hV, hfs]; done))
              | go_step)
            exact HR.out a _ _ hD hV (by simp [hfs]) HW.out (fun h => by have := bad.out h; rw [q3, hkc] at this; cases this)
      · have kz : ¬ (k : Int) < 64 * (E.ll (l + 1) : Int) := by omega
        repeat (first
          | (refine wpList_put hD hV ?hd ?_; (case hd => decide); clear hD hV; (try clear a); intro a hD hV)
          | ((first | refine wpList_plain rfl (fun K hK => ?_) | refine wpList_step (fun K hK => ?_)); go_simp; refine hK _ _ ?_; clear hK K)
          | (refine wp_cond_true ?hc ?_; (case hc => simp [Act.eval, hV, hfs]; done))
          | (refine wp_cond_false ?hc ?_; (case hc => simp [Act.eval, hV, hfs]; done))
          | go_step)
        refine HK.out a _ _ (E.nl - (l + 1)) hD hV (by omega) ⟨l + 1, by omega, rfl, rfl, by simp [hfs], ⟨by simp [hfs, h0], by simp [hfs, h3], by simp [hfs, h5], by simp [hfs, h6], by simp [hfs, h7]⟩, by simp [hfs, h47], fun l' hl' => ?_⟩
        by_cases e : l' = l
        · subst e; exact ⟨by omega, fun j hj => HI2.out j (by omega)⟩
        · exact HI.out l' (by omega)
  · have lz : ¬ (l : Int) + 1 < (E.nl : Int) := by omega
    repeat (first
      | (refine wpList_put hD hV ?hd ?_; (case hd => decide); clear hD hV; (try clear a); intro a hD hV)
      | ((first | refine wpList_plain rfl (fun K hK => ?_) | refine wpList_step (fun K hK => ?_)); go_simp; refine hK _ _ ?_; clear hK K)
      | (refine wp_cond_true ?hc ?_; (case hc => simp [Act.eval, hV, hfs]; done))
      | (refine wp_cond_false ?hc ?_; (case hc => simp [Act.eval, hV, hfs]; done))
      | go_step)
    exact HN.out a _ hD hV ⟨by simp [hfs, h0], by simp [hfs, h3], by simp [hfs, h5], by simp [hfs, h6], by simp [hfs, h7]⟩ (fun l' hl' => HI.out l' (by omega))
end
end Go.Proofs.Qxb6616080a
