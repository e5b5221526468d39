import Derived.Test.Qxb6616080aG6
namespace Go.Proofs.Qxb6616080a
open Go.RowKit
set_option linter.unusedVariables false
set_option linter.unusedSimpArgs false
set_option maxRecDepth 100000

set_option maxHeartbeats 8000000 in
theorem f5_to {T : Ad} {L cl ll : Nat → Nat} {n : Nat} {only tp : Int} {seed hash : Nat} {cc pp : Int} {w : World} (hR : Rw w n T L cl ll) :
    Calls Try.prog 5 #[.slice T.oA n T.oc, .agg (rval T.A L T.cap only tp seed hash), .int .i64 cc, .int .i32 pp] w fun e w' => ∃ r : Bool, e = .returned (.bool r) ∧ Below w.heap.size w w' := by
  refine enter_f Try.func5 rfl Try.ntmps5 (by simp) fun a hD hV0 => ?_
  have hfs := fset_at
  obtain ⟨f, hf⟩ : ∃ f : Nat → Value, f = fun j => (#[.slice T.oA n T.oc, .agg (rval T.A L T.cap only tp seed hash), .int .i64 cc, .int .i32 pp] : Array Value).getD j undef := ⟨_, rfl⟩
  have h0 : f 0 = .slice T.oA n T.oc := by rw [hf]; rfl
  have h1 : f 1 = .agg (rval T.A L T.cap only tp seed hash) := by rw [hf]; rfl
  have hV : ∀ j, j < 258 → a.tmps[j]? = some (f j) := fun j hj => by rw [hV0 j hj, hf]
  have hbox := box_r T.A L T.cap only tp seed hash w
  obtain ⟨W, hWe⟩ : ∃ W, w.alloc (.cells (rval T.A L T.cap only tp seed hash) 30) = W := ⟨_, rfl⟩
  obtain ⟨S, hSe⟩ : ∃ S, w.heap.size = S := ⟨_, rfl⟩
  have hcell : ∀ i, i < 19 → W.cell? ⟨S, i, none⟩ = some ((rval T.A L T.cap only tp seed hash).getD i undef) := fun i hi => by
    rw [← hWe, ← hSe, World.cell?_alloc_new]
    have : i < (rval T.A L T.cap only tp seed hash).size := hi
    simp [this]
  have HBel : Hid (Below w.heap.size w W) := hWe ▸ (Below.refl _ _).alloc (Nat.le_refl _) _
  have HR := hide (hWe ▸ hR.grow _ : Rw W n T L cl ll)
  rw [hWe, hSe] at hbox
  have s1 : W.cell? ⟨S, 1, none⟩ = some (.slice (T.A 1) (L 1) (T.cap 1)) := hcell 1 (by decide)
  have s2 : W.cell? ⟨S, 2, none⟩ = some (.slice (T.A 2) (L 2) (T.cap 2)) := hcell 2 (by decide)
  have s4 : W.cell? ⟨S, 4, none⟩ = some (.slice (T.A 4) (L 4) (T.cap 4)) := hcell 4 (by decide)
  have s5 : W.cell? ⟨S, 5, none⟩ = some (.slice (T.A 5) (L 5) (T.cap 5)) := hcell 5 (by decide)
  have s6 : W.cell? ⟨S, 6, none⟩ = some (.slice (T.A 6) (L 6) (T.cap 6)) := hcell 6 (by decide)
  have s7 : W.cell? ⟨S, 7, none⟩ = some (.slice (T.A 7) (L 7) (T.cap 7)) := hcell 7 (by decide)
  have s8 : W.cell? ⟨S, 8, none⟩ = some (.slice (T.A 8) (L 8) (T.cap 8)) := hcell 8 (by decide)
  have s9 : W.cell? ⟨S, 9, none⟩ = some (.slice (T.A 9) (L 9) (T.cap 9)) := hcell 9 (by decide)
  have s10 : W.cell? ⟨S, 10, none⟩ = some (.slice (T.A 10) (L 10) (T.cap 10)) := hcell 10 (by decide)
  have s11 : W.cell? ⟨S, 11, none⟩ = some (.slice (T.A 11) (L 11) (T.cap 11)) := hcell 11 (by decide)
  have s12 : W.cell? ⟨S, 12, none⟩ = some (.slice (T.A 12) (L 12) (T.cap 12)) := hcell 12 (by decide)
  have s13 : W.cell? ⟨S, 13, none⟩ = some (.slice (T.A 13) (L 13) (T.cap 13)) := hcell 13 (by decide)
  have s14 : W.cell? ⟨S, 14, none⟩ = some (.slice (T.A 14) (L 14) (T.cap 14)) := hcell 14 (by decide)
  have s15 : W.cell? ⟨S, 15, none⟩ = some (.slice (T.A 15) (L 15) (T.cap 15)) := hcell 15 (by decide)
  have s16 : W.cell? ⟨S, 16, none⟩ = some (.slice (T.A 16) (L 16) (T.cap 16)) := hcell 16 (by decide)
  have fin : Hid (∀ (a : Act) (g : Nat → Value) (r : Bool), a.defers = [] → (∀ j, j < 258 → a.tmps[j]? = some (g j)) → g 8 = .bool r →
      bodyPost Try.prog Try.f5 (fun e w' => ∃ r : Bool, e = .returned (.bool r) ∧ Below w.heap.size w w') .ret a W) :=
    fun a g r h1 h2 h3 => ret_f (N := 258) (s := 8) rfl h1 h2 (by omega) ⟨r, by rw [h3], HBel.out⟩
  have HML := hide hR.ml
  have hmn := hR.mn
  clear hf hV0 hcell hR
  unfold maxLen at hmn
  generalize bodyPost Try.prog Try.f5 (fun e w' => ∃ r : Bool, e = .returned (.bool r) ∧ Below w.heap.size w w') = Q at fin ⊢
  clear HBel
  have u0 : (0 : Int) ≤ (n : Int) := by omega
  by_cases qa0 : (1048576 : Int) < (n : Int)
  · repeat (first
      | (refine wpList_put hD hV ?hd ?_; (case hd => decide); clear hD hV; (try clear a); intro a hD hV)
      | ((first | refine wpList_plain rfl (fun K hK => ?_) | refine wpList_step (fun K hK => ?_)); go_simp; refine hK _ _ ?_; clear hK K)
      | (refine wp_cond_true ?hc ?_; (case hc => (simp [Act.eval, hV, hfs]; (try omega); done)))
      | (refine wp_cond_false ?hc ?_; (case hc => (simp [Act.eval, hV, hfs]; (try omega); done)))
      | go_step)
    exact fin.out a _ false hD hV (by simp [hfs])
  have ew0 : IntKind.i64.wrap (n : Int) = (n : Int) := w64' (by unfold i64; omega)
  repeat (first
    | (refine wpList_put hD hV ?hd ?_; (case hd => decide); clear hD hV; (try clear a); intro a hD hV)
    | ((first | refine wpList_plain rfl (fun K hK => ?_) | refine wpList_step (fun K hK => ?_)); go_simp; refine hK _ _ ?_; clear hK K)
    | (refine wp_cond_true ?hc ?_; (case hc => (simp [Act.eval, hV, hfs]; (try omega); done)))
    | (refine wp_cond_false ?hc ?_; (case hc => (simp [Act.eval, hV, hfs]; (try omega); done)))
    | go_step)
  refine wp_loop_f (N := 258) (fun m f w' => ∃ (k : Nat) (t : Int), k ≤ n ∧ m = n - k ∧ w' = W ∧ 0 ≤ t ∧ t ≤ 1048576 ∧ f 9 = .int .i64 t ∧ f 10 = .int .i64 (k : Nat) ∧ f 0 = .slice T.oA n T.oc ∧ f 5 = .pointer (some ⟨S, 0, none⟩)) (n) hD hV
    ⟨0, (n : Int), by omega, by omega, rfl, by omega, by omega, by simp [hfs], by simp [hfs], by simp [hfs, h0], by simp [hfs]⟩ ?_
  clear h0 hD hV a f h1
  intro ma f w' a hD hV ⟨k, t, hk, hm', hw, ht, ht2, h5, h6, h0, h3⟩ K hK
  obtain rfl : W = w' := hw.symm
  have HKa := hide hK
  clear hK hw
  by_cases hkn : k < n
  · have on := HR.out.on (by omega)
    obtain ⟨x, o4, hxl⟩ := HR.out.o4 k hkn
    unfold maxLen at hxl
    have e4 : IntKind.i64.wrap ((k : Int) + 1) = (k : Int) + 1 := w64' (by unfold i64; omega)
    have uu : (0 : Int) ≤ (x.size : Int) := by omega
    repeat (first
      | (refine wpList_put hD hV ?hd ?_; (case hd => decide); clear hD hV; (try clear a); intro a hD hV)
      | ((first | refine wpList_plain rfl (fun K hK => ?_) | refine wpList_step (fun K hK => ?_)); go_simp; refine hK _ _ ?_; clear hK K)
      | (refine wp_cond_true ?hc ?_; (case hc => (simp [Act.eval, hV, hfs]; (try omega); done)))
      | (refine wp_cond_false ?hc ?_; (case hc => (simp [Act.eval, hV, hfs]; (try omega); done)))
      | go_step)
    by_cases q5 : (1048576 : Int) < (x.size : Int)
    · repeat (first
        | (refine wpList_put hD hV ?hd ?_; (case hd => decide); clear hD hV; (try clear a); intro a hD hV)
        | ((first | refine wpList_plain rfl (fun K hK => ?_) | refine wpList_step (fun K hK => ?_)); go_simp; refine hK _ _ ?_; clear hK K)
        | (refine wp_cond_true ?hc ?_; (case hc => (simp [Act.eval, hV, hfs]; (try omega); done)))
        | (refine wp_cond_false ?hc ?_; (case hc => (simp [Act.eval, hV, hfs]; (try omega); done)))
        | go_step)
      exact fin.out a _ false hD hV (by simp [hfs])
    have ew : IntKind.i64.wrap (t + (x.size : Int)) = t + (x.size : Int) := w64' (by unfold i64; omega)
    repeat (first
      | (refine wpList_put hD hV ?hd ?_; (case hd => decide); clear hD hV; (try clear a); intro a hD hV)
      | ((first | refine wpList_plain rfl (fun K hK => ?_) | refine wpList_step (fun K hK => ?_)); go_simp; refine hK _ _ ?_; clear hK K)
      | (refine wp_cond_true ?hc ?_; (case hc => (simp [Act.eval, hV, hfs]; (try omega); done)))
      | (refine wp_cond_false ?hc ?_; (case hc => (simp [Act.eval, hV, hfs]; (try omega); done)))
      | go_step)
    by_cases q6 : (1048576 : Int) < t + (x.size : Int)
    · repeat (first
        | (refine wpList_put hD hV ?hd ?_; (case hd => decide); clear hD hV; (try clear a); intro a hD hV)
        | ((first | refine wpList_plain rfl (fun K hK => ?_) | refine wpList_step (fun K hK => ?_)); go_simp; refine hK _ _ ?_; clear hK K)
        | (refine wp_cond_true ?hc ?_; (case hc => (simp [Act.eval, hV, hfs]; (try omega); done)))
        | (refine wp_cond_false ?hc ?_; (case hc => (simp [Act.eval, hV, hfs]; (try omega); done)))
        | go_step)
      exact fin.out a _ false hD hV (by simp [hfs])
    repeat (first
      | (refine wpList_put hD hV ?hd ?_; (case hd => decide); clear hD hV; (try clear a); intro a hD hV)
      | ((first | refine wpList_plain rfl (fun K hK => ?_) | refine wpList_step (fun K hK => ?_)); go_simp; refine hK _ _ ?_; clear hK K)
      | (refine wp_cond_true ?hc ?_; (case hc => (simp [Act.eval, hV, hfs]; (try omega); done)))
      | (refine wp_cond_false ?hc ?_; (case hc => (simp [Act.eval, hV, hfs]; (try omega); done)))
      | go_step)
    exact HKa.out a _ _ (n - (k + 1)) hD hV (by omega) ⟨k + 1, t + (x.size : Int), by omega, rfl, rfl, by omega, by omega, by simp [hfs], by simp [hfs], by simp [hfs, h0], by simp [hfs, h3]⟩
  repeat (first
    | (refine wpList_put hD hV ?hd ?_; (case hd => decide); clear hD hV; (try clear a); intro a hD hV)
    | ((first | refine wpList_plain rfl (fun K hK => ?_) | refine wpList_step (fun K hK => ?_)); go_simp; refine hK _ _ ?_; clear hK K)
    | (refine wp_cond_true ?hc ?_; (case hc => (simp [Act.eval, hV, hfs]; (try omega); done)))
    | (refine wp_cond_false ?hc ?_; (case hc => (simp [Act.eval, hV, hfs]; (try omega); done)))
    | go_step)
  have u1' := HML.out 1
  unfold maxLen at u1'
  have u1 : (0 : Int) ≤ (L 1 : Int) := by omega
  by_cases qa1 : (1048576 : Int) < (L 1 : Int)
  · repeat (first
      | (refine wpList_put hD hV ?hd ?_; (case hd => decide); clear hD hV; (try clear a); intro a hD hV)
      | ((first | refine wpList_plain rfl (fun K hK => ?_) | refine wpList_step (fun K hK => ?_)); go_simp; refine hK _ _ ?_; clear hK K)
      | (refine wp_cond_true ?hc ?_; (case hc => (simp [Act.eval, hV, hfs]; (try omega); done)))
      | (refine wp_cond_false ?hc ?_; (case hc => (simp [Act.eval, hV, hfs]; (try omega); done)))
      | go_step)
    exact fin.out a _ false hD hV (by simp [hfs])
  have ew1 : IntKind.i64.wrap (t + (L 1 : Int)) = t + (L 1 : Int) := w64' (by unfold i64; omega)
  refine wp_cond_false ?hc ?_
  case hc => (simp [Act.eval, hV, hfs]; (try omega); done)
  go_step
  go_step
  go_step
  repeat (first
    | (refine wpList_put hD hV ?hd ?_; (case hd => decide); clear hD hV; (try clear a); intro a hD hV)
    | ((first | refine wpList_plain rfl (fun K hK => ?_) | refine wpList_step (fun K hK => ?_)); go_simp; refine hK _ _ ?_; clear hK K)
    | (refine wp_cond_true ?hc ?_; (case hc => (simp [Act.eval, hV, hfs]; (try omega); done)))
    | (refine wp_cond_false ?hc ?_; (case hc => (simp [Act.eval, hV, hfs]; (try omega); done)))
    | go_step)
  by_cases qb1 : (1048576 : Int) < t + (L 1 : Int)
  · repeat (first
      | (refine wpList_put hD hV ?hd ?_; (case hd => decide); clear hD hV; (try clear a); intro a hD hV)
      | ((first | refine wpList_plain rfl (fun K hK => ?_) | refine wpList_step (fun K hK => ?_)); go_simp; refine hK _ _ ?_; clear hK K)
      | (refine wp_cond_true ?hc ?_; (case hc => (simp [Act.eval, hV, hfs]; (try omega); done)))
      | (refine wp_cond_false ?hc ?_; (case hc => (simp [Act.eval, hV, hfs]; (try omega); done)))
      | go_step)
    exact fin.out a _ false hD hV (by simp [hfs])
  refine wp_cond_false ?hc ?_
  case hc => (simp [Act.eval, hV, hfs]; (try omega); done)
  go_step
  go_step
  go_step
  obtain ⟨t', ht', htt⟩ : ∃ t' : Int, t + (L 1 : Int) = t' ∧ 0 ≤ t' := ⟨_, rfl, by omega⟩
  obtain ⟨f', hV', h0', h3', h5'⟩ : ∃ f' : Nat → Value, (∀ j, j < 258 → a.tmps[j]? = some (f' j)) ∧ f' 0 = .slice T.oA n T.oc ∧ f' 5 = .pointer (some ⟨S, 0, none⟩) ∧ f' 9 = .int .i64 t' := ⟨_, hV, by simp [hfs, h0], by simp [hfs, h3], by simp [hfs, ht']⟩
  clear hV h0 h3 ew1 qa1 u1
  try clear h5
  try clear h6
  have qt' : t' ≤ 1048576 := by omega
  clear ht' qb1
  try clear ht ht2
  try clear t
  try clear f
  obtain ⟨f, hV, h0, h3, h5⟩ : ∃ f : Nat → Value, (∀ j, j < 258 → a.tmps[j]? = some (f j)) ∧ f 0 = .slice T.oA n T.oc ∧ f 5 = .pointer (some ⟨S, 0, none⟩) ∧ f 9 = .int .i64 t' := ⟨f', hV', h0', h3', h5'⟩
  clear hV' h0' h3' h5' f'
  obtain ⟨t, rfl⟩ : ∃ t : Int, t = t' := ⟨_, rfl⟩
  have ht : 0 ≤ t := htt
  have ht2 : t ≤ 1048576 := qt'
  clear htt qt'
  repeat (first
    | (refine wpList_put hD hV ?hd ?_; (case hd => decide); clear hD hV; (try clear a); intro a hD hV)
    | ((first | refine wpList_plain rfl (fun K hK => ?_) | refine wpList_step (fun K hK => ?_)); go_simp; refine hK _ _ ?_; clear hK K)
    | (refine wp_cond_true ?hc ?_; (case hc => (simp [Act.eval, hV, hfs]; (try omega); done)))
    | (refine wp_cond_false ?hc ?_; (case hc => (simp [Act.eval, hV, hfs]; (try omega); done)))
    | go_step)
  refine wp_loop_f (N := 258) (fun m f w' => ∃ (k : Nat) (t : Int), k ≤ L 1 ∧ m = L 1 - k ∧ w' = W ∧ 0 ≤ t ∧ t ≤ 1048576 ∧ f 9 = .int .i64 t ∧ f 11 = .int .i64 (k : Nat) ∧ f 0 = .slice T.oA n T.oc ∧ f 5 = .pointer (some ⟨S, 0, none⟩)) (L 1) hD hV
    ⟨0, t, by omega, by omega, rfl, by omega, by omega, by simp [hfs, h5], by simp [hfs], by simp [hfs, h0], by simp [hfs, h3]⟩ ?_
  clear h0 hD hV a f h3 h5 ht ht2 t
  intro mb f w' a hD hV ⟨k, t, hk, hm', hw, ht, ht2, h5, h6, h0, h3⟩ K hK
  obtain rfl : W = w' := hw.symm
  have HKb := hide hK
  clear hK hw
  by_cases hkn : k < L 1
  · have n1 := HR.out.n1 (by omega)
    have d1 := HR.out.d1 k hkn
    have hmc := HR.out.mc k hkn
    unfold maxLen at hmc
    have e4 : IntKind.i64.wrap ((k : Int) + 1) = (k : Int) + 1 := w64' (by unfold i64; omega)
    have uu : (0 : Int) ≤ ((cl k : Nat) : Int) := by omega
    repeat (first
      | (refine wpList_put hD hV ?hd ?_; (case hd => decide); clear hD hV; (try clear a); intro a hD hV)
      | ((first | refine wpList_plain rfl (fun K hK => ?_) | refine wpList_step (fun K hK => ?_)); go_simp; refine hK _ _ ?_; clear hK K)
      | (refine wp_cond_true ?hc ?_; (case hc => (simp [Act.eval, hV, hfs]; (try omega); done)))
      | (refine wp_cond_false ?hc ?_; (case hc => (simp [Act.eval, hV, hfs]; (try omega); done)))
      | go_step)
    by_cases q5 : (1048576 : Int) < ((cl k : Nat) : Int)
    · repeat (first
        | (refine wpList_put hD hV ?hd ?_; (case hd => decide); clear hD hV; (try clear a); intro a hD hV)
        | ((first | refine wpList_plain rfl (fun K hK => ?_) | refine wpList_step (fun K hK => ?_)); go_simp; refine hK _ _ ?_; clear hK K)
        | (refine wp_cond_true ?hc ?_; (case hc => (simp [Act.eval, hV, hfs]; (try omega); done)))
        | (refine wp_cond_false ?hc ?_; (case hc => (simp [Act.eval, hV, hfs]; (try omega); done)))
        | go_step)
      exact fin.out a _ false hD hV (by simp [hfs])
    have ew : IntKind.i64.wrap (t + ((cl k : Nat) : Int)) = t + ((cl k : Nat) : Int) := w64' (by unfold i64; omega)
    repeat (first
      | (refine wpList_put hD hV ?hd ?_; (case hd => decide); clear hD hV; (try clear a); intro a hD hV)
      | ((first | refine wpList_plain rfl (fun K hK => ?_) | refine wpList_step (fun K hK => ?_)); go_simp; refine hK _ _ ?_; clear hK K)
      | (refine wp_cond_true ?hc ?_; (case hc => (simp [Act.eval, hV, hfs]; (try omega); done)))
      | (refine wp_cond_false ?hc ?_; (case hc => (simp [Act.eval, hV, hfs]; (try omega); done)))
      | go_step)
    by_cases q6 : (1048576 : Int) < t + ((cl k : Nat) : Int)
    · repeat (first
        | (refine wpList_put hD hV ?hd ?_; (case hd => decide); clear hD hV; (try clear a); intro a hD hV)
        | ((first | refine wpList_plain rfl (fun K hK => ?_) | refine wpList_step (fun K hK => ?_)); go_simp; refine hK _ _ ?_; clear hK K)
        | (refine wp_cond_true ?hc ?_; (case hc => (simp [Act.eval, hV, hfs]; (try omega); done)))
        | (refine wp_cond_false ?hc ?_; (case hc => (simp [Act.eval, hV, hfs]; (try omega); done)))
        | go_step)
      exact fin.out a _ false hD hV (by simp [hfs])
    repeat (first
      | (refine wpList_put hD hV ?hd ?_; (case hd => decide); clear hD hV; (try clear a); intro a hD hV)
      | ((first | refine wpList_plain rfl (fun K hK => ?_) | refine wpList_step (fun K hK => ?_)); go_simp; refine hK _ _ ?_; clear hK K)
      | (refine wp_cond_true ?hc ?_; (case hc => (simp [Act.eval, hV, hfs]; (try omega); done)))
      | (refine wp_cond_false ?hc ?_; (case hc => (simp [Act.eval, hV, hfs]; (try omega); done)))
      | go_step)
    exact HKb.out a _ _ (L 1 - (k + 1)) hD hV (by omega) ⟨k + 1, t + ((cl k : Nat) : Int), by omega, rfl, rfl, by omega, by omega, by simp [hfs], by simp [hfs], by simp [hfs, h0], by simp [hfs, h3]⟩
  repeat (first
    | (refine wpList_put hD hV ?hd ?_; (case hd => decide); clear hD hV; (try clear a); intro a hD hV)
    | ((first | refine wpList_plain rfl (fun K hK => ?_) | refine wpList_step (fun K hK => ?_)); go_simp; refine hK _ _ ?_; clear hK K)
    | (refine wp_cond_true ?hc ?_; (case hc => (simp [Act.eval, hV, hfs]; (try omega); done)))
    | (refine wp_cond_false ?hc ?_; (case hc => (simp [Act.eval, hV, hfs]; (try omega); done)))
    | go_step)
  have u2' := HML.out 2
  unfold maxLen at u2'
  have u2 : (0 : Int) ≤ (L 2 : Int) := by omega
  by_cases qa2 : (1048576 : Int) < (L 2 : Int)
  · repeat (first
      | (refine wpList_put hD hV ?hd ?_; (case hd => decide); clear hD hV; (try clear a); intro a hD hV)
      | ((first | refine wpList_plain rfl (fun K hK => ?_) | refine wpList_step (fun K hK => ?_)); go_simp; refine hK _ _ ?_; clear hK K)
      | (refine wp_cond_true ?hc ?_; (case hc => (simp [Act.eval, hV, hfs]; (try omega); done)))
      | (refine wp_cond_false ?hc ?_; (case hc => (simp [Act.eval, hV, hfs]; (try omega); done)))
      | go_step)
    exact fin.out a _ false hD hV (by simp [hfs])
  have ew2 : IntKind.i64.wrap (t + (L 2 : Int)) = t + (L 2 : Int) := w64' (by unfold i64; omega)
  refine wp_cond_false ?hc ?_
  case hc => (simp [Act.eval, hV, hfs]; (try omega); done)
  go_step
  go_step
  go_step
  repeat (first
    | (refine wpList_put hD hV ?hd ?_; (case hd => decide); clear hD hV; (try clear a); intro a hD hV)
    | ((first | refine wpList_plain rfl (fun K hK => ?_) | refine wpList_step (fun K hK => ?_)); go_simp; refine hK _ _ ?_; clear hK K)
    | (refine wp_cond_true ?hc ?_; (case hc => (simp [Act.eval, hV, hfs]; (try omega); done)))
    | (refine wp_cond_false ?hc ?_; (case hc => (simp [Act.eval, hV, hfs]; (try omega); done)))
    | go_step)
  by_cases qb2 : (1048576 : Int) < t + (L 2 : Int)
  · repeat (first
      | (refine wpList_put hD hV ?hd ?_; (case hd => decide); clear hD hV; (try clear a); intro a hD hV)
      | ((first | refine wpList_plain rfl (fun K hK => ?_) | refine wpList_step (fun K hK => ?_)); go_simp; refine hK _ _ ?_; clear hK K)
      | (refine wp_cond_true ?hc ?_; (case hc => (simp [Act.eval, hV, hfs]; (try omega); done)))
      | (refine wp_cond_false ?hc ?_; (case hc => (simp [Act.eval, hV, hfs]; (try omega); done)))
      | go_step)
    exact fin.out a _ false hD hV (by simp [hfs])
  refine wp_cond_false ?hc ?_
  case hc => (simp [Act.eval, hV, hfs]; (try omega); done)
  go_step
  go_step
  go_step
  obtain ⟨t', ht', htt⟩ : ∃ t' : Int, t + (L 2 : Int) = t' ∧ 0 ≤ t' := ⟨_, rfl, by omega⟩
  obtain ⟨f', hV', h0', h3', h5'⟩ : ∃ f' : Nat → Value, (∀ j, j < 258 → a.tmps[j]? = some (f' j)) ∧ f' 0 = .slice T.oA n T.oc ∧ f' 5 = .pointer (some ⟨S, 0, none⟩) ∧ f' 9 = .int .i64 t' := ⟨_, hV, by simp [hfs, h0], by simp [hfs, h3], by simp [hfs, ht']⟩
  clear hV h0 h3 ew2 qa2 u2
  try clear h5
  try clear h6
  have qt' : t' ≤ 1048576 := by omega
  clear ht' qb2
  try clear ht ht2
  try clear t
  try clear f
  obtain ⟨f, hV, h0, h3, h5⟩ : ∃ f : Nat → Value, (∀ j, j < 258 → a.tmps[j]? = some (f j)) ∧ f 0 = .slice T.oA n T.oc ∧ f 5 = .pointer (some ⟨S, 0, none⟩) ∧ f 9 = .int .i64 t' := ⟨f', hV', h0', h3', h5'⟩
  clear hV' h0' h3' h5' f'
  obtain ⟨t, rfl⟩ : ∃ t : Int, t = t' := ⟨_, rfl⟩
  have ht : 0 ≤ t := htt
  have ht2 : t ≤ 1048576 := qt'
  clear htt qt'
  repeat (first
    | (refine wpList_put hD hV ?hd ?_; (case hd => decide); clear hD hV; (try clear a); intro a hD hV)
    | ((first | refine wpList_plain rfl (fun K hK => ?_) | refine wpList_step (fun K hK => ?_)); go_simp; refine hK _ _ ?_; clear hK K)
    | (refine wp_cond_true ?hc ?_; (case hc => (simp [Act.eval, hV, hfs]; (try omega); done)))
    | (refine wp_cond_false ?hc ?_; (case hc => (simp [Act.eval, hV, hfs]; (try omega); done)))
    | go_step)
  have u4' := HML.out 4
  unfold maxLen at u4'
  have u4 : (0 : Int) ≤ (L 4 : Int) := by omega
  by_cases qa4 : (1048576 : Int) < (L 4 : Int)
  · repeat (first
      | (refine wpList_put hD hV ?hd ?_; (case hd => decide); clear hD hV; (try clear a); intro a hD hV)
      | ((first | refine wpList_plain rfl (fun K hK => ?_) | refine wpList_step (fun K hK => ?_)); go_simp; refine hK _ _ ?_; clear hK K)
      | (refine wp_cond_true ?hc ?_; (case hc => (simp [Act.eval, hV, hfs]; (try omega); done)))
      | (refine wp_cond_false ?hc ?_; (case hc => (simp [Act.eval, hV, hfs]; (try omega); done)))
      | go_step)
    exact fin.out a _ false hD hV (by simp [hfs])
  have ew4 : IntKind.i64.wrap (t + (L 4 : Int)) = t + (L 4 : Int) := w64' (by unfold i64; omega)
  refine wp_cond_false ?hc ?_
  case hc => (simp [Act.eval, hV, hfs]; (try omega); done)
  go_step
  go_step
  go_step
  repeat (first
    | (refine wpList_put hD hV ?hd ?_; (case hd => decide); clear hD hV; (try clear a); intro a hD hV)
    | ((first | refine wpList_plain rfl (fun K hK => ?_) | refine wpList_step (fun K hK => ?_)); go_simp; refine hK _ _ ?_; clear hK K)
    | (refine wp_cond_true ?hc ?_; (case hc => (simp [Act.eval, hV, hfs]; (try omega); done)))
    | (refine wp_cond_false ?hc ?_; (case hc => (simp [Act.eval, hV, hfs]; (try omega); done)))
    | go_step)
  by_cases qb4 : (1048576 : Int) < t + (L 4 : Int)
  · repeat (first
      | (refine wpList_put hD hV ?hd ?_; (case hd => decide); clear hD hV; (try clear a); intro a hD hV)
      | ((first | refine wpList_plain rfl (fun K hK => ?_) | refine wpList_step (fun K hK => ?_)); go_simp; refine hK _ _ ?_; clear hK K)
      | (refine wp_cond_true ?hc ?_; (case hc => (simp [Act.eval, hV, hfs]; (try omega); done)))
      | (refine wp_cond_false ?hc ?_; (case hc => (simp [Act.eval, hV, hfs]; (try omega); done)))
      | go_step)
    exact fin.out a _ false hD hV (by simp [hfs])
  refine wp_cond_false ?hc ?_
  case hc => (simp [Act.eval, hV, hfs]; (try omega); done)
  go_step
  go_step
  go_step
  obtain ⟨t', ht', htt⟩ : ∃ t' : Int, t + (L 4 : Int) = t' ∧ 0 ≤ t' := ⟨_, rfl, by omega⟩
  obtain ⟨f', hV', h0', h3', h5'⟩ : ∃ f' : Nat → Value, (∀ j, j < 258 → a.tmps[j]? = some (f' j)) ∧ f' 0 = .slice T.oA n T.oc ∧ f' 5 = .pointer (some ⟨S, 0, none⟩) ∧ f' 9 = .int .i64 t' := ⟨_, hV, by simp [hfs, h0], by simp [hfs, h3], by simp [hfs, ht']⟩
  clear hV h0 h3 ew4 qa4 u4
  try clear h5
  try clear h6
  have qt' : t' ≤ 1048576 := by omega
  clear ht' qb4
  try clear ht ht2
  try clear t
  try clear f
  obtain ⟨f, hV, h0, h3, h5⟩ : ∃ f : Nat → Value, (∀ j, j < 258 → a.tmps[j]? = some (f j)) ∧ f 0 = .slice T.oA n T.oc ∧ f 5 = .pointer (some ⟨S, 0, none⟩) ∧ f 9 = .int .i64 t' := ⟨f', hV', h0', h3', h5'⟩
  clear hV' h0' h3' h5' f'
  obtain ⟨t, rfl⟩ : ∃ t : Int, t = t' := ⟨_, rfl⟩
  have ht : 0 ≤ t := htt
  have ht2 : t ≤ 1048576 := qt'
  clear htt qt'
  repeat (first
    | (refine wpList_put hD hV ?hd ?_; (case hd => decide); clear hD hV; (try clear a); intro a hD hV)
    | ((first | refine wpList_plain rfl (fun K hK => ?_) | refine wpList_step (fun K hK => ?_)); go_simp; refine hK _ _ ?_; clear hK K)
    | (refine wp_cond_true ?hc ?_; (case hc => (simp [Act.eval, hV, hfs]; (try omega); done)))
    | (refine wp_cond_false ?hc ?_; (case hc => (simp [Act.eval, hV, hfs]; (try omega); done)))
    | go_step)
  have u5' := HML.out 5
  unfold maxLen at u5'
  have u5 : (0 : Int) ≤ (L 5 : Int) := by omega
  by_cases qa5 : (1048576 : Int) < (L 5 : Int)
  · repeat (first
      | (refine wpList_put hD hV ?hd ?_; (case hd => decide); clear hD hV; (try clear a); intro a hD hV)
      | ((first | refine wpList_plain rfl (fun K hK => ?_) | refine wpList_step (fun K hK => ?_)); go_simp; refine hK _ _ ?_; clear hK K)
      | (refine wp_cond_true ?hc ?_; (case hc => (simp [Act.eval, hV, hfs]; (try omega); done)))
      | (refine wp_cond_false ?hc ?_; (case hc => (simp [Act.eval, hV, hfs]; (try omega); done)))
      | go_step)
    exact fin.out a _ false hD hV (by simp [hfs])
  have ew5 : IntKind.i64.wrap (t + (L 5 : Int)) = t + (L 5 : Int) := w64' (by unfold i64; omega)
  refine wp_cond_false ?hc ?_
  case hc => (simp [Act.eval, hV, hfs]; (try omega); done)
  go_step
  go_step
  go_step
  repeat (first
    | (refine wpList_put hD hV ?hd ?_; (case hd => decide); clear hD hV; (try clear a); intro a hD hV)
    | ((first | refine wpList_plain rfl (fun K hK => ?_) | refine wpList_step (fun K hK => ?_)); go_simp; refine hK _ _ ?_; clear hK K)
    | (refine wp_cond_true ?hc ?_; (case hc => (simp [Act.eval, hV, hfs]; (try omega); done)))
    | (refine wp_cond_false ?hc ?_; (case hc => (simp [Act.eval, hV, hfs]; (try omega); done)))
    | go_step)
  by_cases qb5 : (1048576 : Int) < t + (L 5 : Int)
  · repeat (first
      | (refine wpList_put hD hV ?hd ?_; (case hd => decide); clear hD hV; (try clear a); intro a hD hV)
      | ((first | refine wpList_plain rfl (fun K hK => ?_) | refine wpList_step (fun K hK => ?_)); go_simp; refine hK _ _ ?_; clear hK K)
      | (refine wp_cond_true ?hc ?_; (case hc => (simp [Act.eval, hV, hfs]; (try omega); done)))
      | (refine wp_cond_false ?hc ?_; (case hc => (simp [Act.eval, hV, hfs]; (try omega); done)))
      | go_step)
    exact fin.out a _ false hD hV (by simp [hfs])
  refine wp_cond_false ?hc ?_
  case hc => (simp [Act.eval, hV, hfs]; (try omega); done)
  go_step
  go_step
  go_step
  obtain ⟨t', ht', htt⟩ : ∃ t' : Int, t + (L 5 : Int) = t' ∧ 0 ≤ t' := ⟨_, rfl, by omega⟩
  obtain ⟨f', hV', h0', h3', h5'⟩ : ∃ f' : Nat → Value, (∀ j, j < 258 → a.tmps[j]? = some (f' j)) ∧ f' 0 = .slice T.oA n T.oc ∧ f' 5 = .pointer (some ⟨S, 0, none⟩) ∧ f' 9 = .int .i64 t' := ⟨_, hV, by simp [hfs, h0], by simp [hfs, h3], by simp [hfs, ht']⟩
  clear hV h0 h3 ew5 qa5 u5
  try clear h5
  try clear h6
  have qt' : t' ≤ 1048576 := by omega
  clear ht' qb5
  try clear ht ht2
  try clear t
  try clear f
  obtain ⟨f, hV, h0, h3, h5⟩ : ∃ f : Nat → Value, (∀ j, j < 258 → a.tmps[j]? = some (f j)) ∧ f 0 = .slice T.oA n T.oc ∧ f 5 = .pointer (some ⟨S, 0, none⟩) ∧ f 9 = .int .i64 t' := ⟨f', hV', h0', h3', h5'⟩
  clear hV' h0' h3' h5' f'
  obtain ⟨t, rfl⟩ : ∃ t : Int, t = t' := ⟨_, rfl⟩
  have ht : 0 ≤ t := htt
  have ht2 : t ≤ 1048576 := qt'
  clear htt qt'
  repeat (first
    | (refine wpList_put hD hV ?hd ?_; (case hd => decide); clear hD hV; (try clear a); intro a hD hV)
    | ((first | refine wpList_plain rfl (fun K hK => ?_) | refine wpList_step (fun K hK => ?_)); go_simp; refine hK _ _ ?_; clear hK K)
    | (refine wp_cond_true ?hc ?_; (case hc => (simp [Act.eval, hV, hfs]; (try omega); done)))
    | (refine wp_cond_false ?hc ?_; (case hc => (simp [Act.eval, hV, hfs]; (try omega); done)))
    | go_step)
  have u6' := HML.out 6
  unfold maxLen at u6'
  have u6 : (0 : Int) ≤ (L 6 : Int) := by omega
  by_cases qa6 : (1048576 : Int) < (L 6 : Int)
  · repeat (first
      | (refine wpList_put hD hV ?hd ?_; (case hd => decide); clear hD hV; (try clear a); intro a hD hV)
      | ((first | refine wpList_plain rfl (fun K hK => ?_) | refine wpList_step (fun K hK => ?_)); go_simp; refine hK _ _ ?_; clear hK K)
      | (refine wp_cond_true ?hc ?_; (case hc => (simp [Act.eval, hV, hfs]; (try omega); done)))
      | (refine wp_cond_false ?hc ?_; (case hc => (simp [Act.eval, hV, hfs]; (try omega); done)))
      | go_step)
    exact fin.out a _ false hD hV (by simp [hfs])
  have ew6 : IntKind.i64.wrap (t + (L 6 : Int)) = t + (L 6 : Int) := w64' (by unfold i64; omega)
  refine wp_cond_false ?hc ?_
  case hc => (simp [Act.eval, hV, hfs]; (try omega); done)
  go_step
  go_step
  go_step
  repeat (first
    | (refine wpList_put hD hV ?hd ?_; (case hd => decide); clear hD hV; (try clear a); intro a hD hV)
    | ((first | refine wpList_plain rfl (fun K hK => ?_) | refine wpList_step (fun K hK => ?_)); go_simp; refine hK _ _ ?_; clear hK K)
    | (refine wp_cond_true ?hc ?_; (case hc => (simp [Act.eval, hV, hfs]; (try omega); done)))
    | (refine wp_cond_false ?hc ?_; (case hc => (simp [Act.eval, hV, hfs]; (try omega); done)))
    | go_step)
  by_cases qb6 : (1048576 : Int) < t + (L 6 : Int)
  · repeat (first
      | (refine wpList_put hD hV ?hd ?_; (case hd => decide); clear hD hV; (try clear a); intro a hD hV)
      | ((first | refine wpList_plain rfl (fun K hK => ?_) | refine wpList_step (fun K hK => ?_)); go_simp; refine hK _ _ ?_; clear hK K)
      | (refine wp_cond_true ?hc ?_; (case hc => (simp [Act.eval, hV, hfs]; (try omega); done)))
      | (refine wp_cond_false ?hc ?_; (case hc => (simp [Act.eval, hV, hfs]; (try omega); done)))
      | go_step)
    exact fin.out a _ false hD hV (by simp [hfs])
  refine wp_cond_false ?hc ?_
  case hc => (simp [Act.eval, hV, hfs]; (try omega); done)
  go_step
  go_step
  go_step
  obtain ⟨t', ht', htt⟩ : ∃ t' : Int, t + (L 6 : Int) = t' ∧ 0 ≤ t' := ⟨_, rfl, by omega⟩
  obtain ⟨f', hV', h0', h3', h5'⟩ : ∃ f' : Nat → Value, (∀ j, j < 258 → a.tmps[j]? = some (f' j)) ∧ f' 0 = .slice T.oA n T.oc ∧ f' 5 = .pointer (some ⟨S, 0, none⟩) ∧ f' 9 = .int .i64 t' := ⟨_, hV, by simp [hfs, h0], by simp [hfs, h3], by simp [hfs, ht']⟩
  clear hV h0 h3 ew6 qa6 u6
  try clear h5
  try clear h6
  have qt' : t' ≤ 1048576 := by omega
  clear ht' qb6
  try clear ht ht2
  try clear t
  try clear f
  obtain ⟨f, hV, h0, h3, h5⟩ : ∃ f : Nat → Value, (∀ j, j < 258 → a.tmps[j]? = some (f j)) ∧ f 0 = .slice T.oA n T.oc ∧ f 5 = .pointer (some ⟨S, 0, none⟩) ∧ f 9 = .int .i64 t' := ⟨f', hV', h0', h3', h5'⟩
  clear hV' h0' h3' h5' f'
  obtain ⟨t, rfl⟩ : ∃ t : Int, t = t' := ⟨_, rfl⟩
  have ht : 0 ≤ t := htt
  have ht2 : t ≤ 1048576 := qt'
  clear htt qt'
  repeat (first
    | (refine wpList_put hD hV ?hd ?_; (case hd => decide); clear hD hV; (try clear a); intro a hD hV)
    | ((first | refine wpList_plain rfl (fun K hK => ?_) | refine wpList_step (fun K hK => ?_)); go_simp; refine hK _ _ ?_; clear hK K)
    | (refine wp_cond_true ?hc ?_; (case hc => (simp [Act.eval, hV, hfs]; (try omega); done)))
    | (refine wp_cond_false ?hc ?_; (case hc => (simp [Act.eval, hV, hfs]; (try omega); done)))
    | go_step)
  have u7' := HML.out 7
  unfold maxLen at u7'
  have u7 : (0 : Int) ≤ (L 7 : Int) := by omega
  by_cases qa7 : (1048576 : Int) < (L 7 : Int)
  · repeat (first
      | (refine wpList_put hD hV ?hd ?_; (case hd => decide); clear hD hV; (try clear a); intro a hD hV)
      | ((first | refine wpList_plain rfl (fun K hK => ?_) | refine wpList_step (fun K hK => ?_)); go_simp; refine hK _ _ ?_; clear hK K)
      | (refine wp_cond_true ?hc ?_; (case hc => (simp [Act.eval, hV, hfs]; (try omega); done)))
      | (refine wp_cond_false ?hc ?_; (case hc => (simp [Act.eval, hV, hfs]; (try omega); done)))
      | go_step)
    exact fin.out a _ false hD hV (by simp [hfs])
  have ew7 : IntKind.i64.wrap (t + (L 7 : Int)) = t + (L 7 : Int) := w64' (by unfold i64; omega)
  refine wp_cond_false ?hc ?_
  case hc => (simp [Act.eval, hV, hfs]; (try omega); done)
  go_step
  go_step
  go_step
  repeat (first
    | (refine wpList_put hD hV ?hd ?_; (case hd => decide); clear hD hV; (try clear a); intro a hD hV)
    | ((first | refine wpList_plain rfl (fun K hK => ?_) | refine wpList_step (fun K hK => ?_)); go_simp; refine hK _ _ ?_; clear hK K)
    | (refine wp_cond_true ?hc ?_; (case hc => (simp [Act.eval, hV, hfs]; (try omega); done)))
    | (refine wp_cond_false ?hc ?_; (case hc => (simp [Act.eval, hV, hfs]; (try omega); done)))
    | go_step)
  by_cases qb7 : (1048576 : Int) < t + (L 7 : Int)
  · repeat (first
      | (refine wpList_put hD hV ?hd ?_; (case hd => decide); clear hD hV; (try clear a); intro a hD hV)
      | ((first | refine wpList_plain rfl (fun K hK => ?_) | refine wpList_step (fun K hK => ?_)); go_simp; refine hK _ _ ?_; clear hK K)
      | (refine wp_cond_true ?hc ?_; (case hc => (simp [Act.eval, hV, hfs]; (try omega); done)))
      | (refine wp_cond_false ?hc ?_; (case hc => (simp [Act.eval, hV, hfs]; (try omega); done)))
      | go_step)
    exact fin.out a _ false hD hV (by simp [hfs])
  refine wp_cond_false ?hc ?_
  case hc => (simp [Act.eval, hV, hfs]; (try omega); done)
  go_step
  go_step
  go_step
  obtain ⟨t', ht', htt⟩ : ∃ t' : Int, t + (L 7 : Int) = t' ∧ 0 ≤ t' := ⟨_, rfl, by omega⟩
  obtain ⟨f', hV', h0', h3', h5'⟩ : ∃ f' : Nat → Value, (∀ j, j < 258 → a.tmps[j]? = some (f' j)) ∧ f' 0 = .slice T.oA n T.oc ∧ f' 5 = .pointer (some ⟨S, 0, none⟩) ∧ f' 9 = .int .i64 t' := ⟨_, hV, by simp [hfs, h0], by simp [hfs, h3], by simp [hfs, ht']⟩
  clear hV h0 h3 ew7 qa7 u7
  try clear h5
  try clear h6
  have qt' : t' ≤ 1048576 := by omega
  clear ht' qb7
  try clear ht ht2
  try clear t
  try clear f
  obtain ⟨f, hV, h0, h3, h5⟩ : ∃ f : Nat → Value, (∀ j, j < 258 → a.tmps[j]? = some (f j)) ∧ f 0 = .slice T.oA n T.oc ∧ f 5 = .pointer (some ⟨S, 0, none⟩) ∧ f 9 = .int .i64 t' := ⟨f', hV', h0', h3', h5'⟩
  clear hV' h0' h3' h5' f'
  obtain ⟨t, rfl⟩ : ∃ t : Int, t = t' := ⟨_, rfl⟩
  have ht : 0 ≤ t := htt
  have ht2 : t ≤ 1048576 := qt'
  clear htt qt'
  repeat (first
    | (refine wpList_put hD hV ?hd ?_; (case hd => decide); clear hD hV; (try clear a); intro a hD hV)
    | ((first | refine wpList_plain rfl (fun K hK => ?_) | refine wpList_step (fun K hK => ?_)); go_simp; refine hK _ _ ?_; clear hK K)
    | (refine wp_cond_true ?hc ?_; (case hc => (simp [Act.eval, hV, hfs]; (try omega); done)))
    | (refine wp_cond_false ?hc ?_; (case hc => (simp [Act.eval, hV, hfs]; (try omega); done)))
    | go_step)
  have u8' := HML.out 8
  unfold maxLen at u8'
  have u8 : (0 : Int) ≤ (L 8 : Int) := by omega
  by_cases qa8 : (1048576 : Int) < (L 8 : Int)
  · repeat (first
      | (refine wpList_put hD hV ?hd ?_; (case hd => decide); clear hD hV; (try clear a); intro a hD hV)
      | ((first | refine wpList_plain rfl (fun K hK => ?_) | refine wpList_step (fun K hK => ?_)); go_simp; refine hK _ _ ?_; clear hK K)
      | (refine wp_cond_true ?hc ?_; (case hc => (simp [Act.eval, hV, hfs]; (try omega); done)))
      | (refine wp_cond_false ?hc ?_; (case hc => (simp [Act.eval, hV, hfs]; (try omega); done)))
      | go_step)
    exact fin.out a _ false hD hV (by simp [hfs])
  have ew8 : IntKind.i64.wrap (t + (L 8 : Int)) = t + (L 8 : Int) := w64' (by unfold i64; omega)
  refine wp_cond_false ?hc ?_
  case hc => (simp [Act.eval, hV, hfs]; (try omega); done)
  go_step
  go_step
  go_step
  repeat (first
    | (refine wpList_put hD hV ?hd ?_; (case hd => decide); clear hD hV; (try clear a); intro a hD hV)
    | ((first | refine wpList_plain rfl (fun K hK => ?_) | refine wpList_step (fun K hK => ?_)); go_simp; refine hK _ _ ?_; clear hK K)
    | (refine wp_cond_true ?hc ?_; (case hc => (simp [Act.eval, hV, hfs]; (try omega); done)))
    | (refine wp_cond_false ?hc ?_; (case hc => (simp [Act.eval, hV, hfs]; (try omega); done)))
    | go_step)
  by_cases qb8 : (1048576 : Int) < t + (L 8 : Int)
  · repeat (first
      | (refine wpList_put hD hV ?hd ?_; (case hd => decide); clear hD hV; (try clear a); intro a hD hV)
      | ((first | refine wpList_plain rfl (fun K hK => ?_) | refine wpList_step (fun K hK => ?_)); go_simp; refine hK _ _ ?_; clear hK K)
      | (refine wp_cond_true ?hc ?_; (case hc => (simp [Act.eval, hV, hfs]; (try omega); done)))
      | (refine wp_cond_false ?hc ?_; (case hc => (simp [Act.eval, hV, hfs]; (try omega); done)))
      | go_step)
    exact fin.out a _ false hD hV (by simp [hfs])
  refine wp_cond_false ?hc ?_
  case hc => (simp [Act.eval, hV, hfs]; (try omega); done)
  go_step
  go_step
  go_step
  obtain ⟨t', ht', htt⟩ : ∃ t' : Int, t + (L 8 : Int) = t' ∧ 0 ≤ t' := ⟨_, rfl, by omega⟩
  obtain ⟨f', hV', h0', h3', h5'⟩ : ∃ f' : Nat → Value, (∀ j, j < 258 → a.tmps[j]? = some (f' j)) ∧ f' 0 = .slice T.oA n T.oc ∧ f' 5 = .pointer (some ⟨S, 0, none⟩) ∧ f' 9 = .int .i64 t' := ⟨_, hV, by simp [hfs, h0], by simp [hfs, h3], by simp [hfs, ht']⟩
  clear hV h0 h3 ew8 qa8 u8
  try clear h5
  try clear h6
  have qt' : t' ≤ 1048576 := by omega
  clear ht' qb8
  try clear ht ht2
  try clear t
  try clear f
  obtain ⟨f, hV, h0, h3, h5⟩ : ∃ f : Nat → Value, (∀ j, j < 258 → a.tmps[j]? = some (f j)) ∧ f 0 = .slice T.oA n T.oc ∧ f 5 = .pointer (some ⟨S, 0, none⟩) ∧ f 9 = .int .i64 t' := ⟨f', hV', h0', h3', h5'⟩
  clear hV' h0' h3' h5' f'
  obtain ⟨t, rfl⟩ : ∃ t : Int, t = t' := ⟨_, rfl⟩
  have ht : 0 ≤ t := htt
  have ht2 : t ≤ 1048576 := qt'
  clear htt qt'
  repeat (first
    | (refine wpList_put hD hV ?hd ?_; (case hd => decide); clear hD hV; (try clear a); intro a hD hV)
    | ((first | refine wpList_plain rfl (fun K hK => ?_) | refine wpList_step (fun K hK => ?_)); go_simp; refine hK _ _ ?_; clear hK K)
    | (refine wp_cond_true ?hc ?_; (case hc => (simp [Act.eval, hV, hfs]; (try omega); done)))
    | (refine wp_cond_false ?hc ?_; (case hc => (simp [Act.eval, hV, hfs]; (try omega); done)))
    | go_step)
  have u9' := HML.out 9
  unfold maxLen at u9'
  have u9 : (0 : Int) ≤ (L 9 : Int) := by omega
  by_cases qa9 : (1048576 : Int) < (L 9 : Int)
  · repeat (first
      | (refine wpList_put hD hV ?hd ?_; (case hd => decide); clear hD hV; (try clear a); intro a hD hV)
      | ((first | refine wpList_plain rfl (fun K hK => ?_) | refine wpList_step (fun K hK => ?_)); go_simp; refine hK _ _ ?_; clear hK K)
      | (refine wp_cond_true ?hc ?_; (case hc => (simp [Act.eval, hV, hfs]; (try omega); done)))
      | (refine wp_cond_false ?hc ?_; (case hc => (simp [Act.eval, hV, hfs]; (try omega); done)))
      | go_step)
    exact fin.out a _ false hD hV (by simp [hfs])
  have ew9 : IntKind.i64.wrap (t + (L 9 : Int)) = t + (L 9 : Int) := w64' (by unfold i64; omega)
  refine wp_cond_false ?hc ?_
  case hc => (simp [Act.eval, hV, hfs]; (try omega); done)
  go_step
  go_step
  go_step
  repeat (first
    | (refine wpList_put hD hV ?hd ?_; (case hd => decide); clear hD hV; (try clear a); intro a hD hV)
    | ((first | refine wpList_plain rfl (fun K hK => ?_) | refine wpList_step (fun K hK => ?_)); go_simp; refine hK _ _ ?_; clear hK K)
    | (refine wp_cond_true ?hc ?_; (case hc => (simp [Act.eval, hV, hfs]; (try omega); done)))
    | (refine wp_cond_false ?hc ?_; (case hc => (simp [Act.eval, hV, hfs]; (try omega); done)))
    | go_step)
  by_cases qb9 : (1048576 : Int) < t + (L 9 : Int)
  · repeat (first
      | (refine wpList_put hD hV ?hd ?_; (case hd => decide); clear hD hV; (try clear a); intro a hD hV)
      | ((first | refine wpList_plain rfl (fun K hK => ?_) | refine wpList_step (fun K hK => ?_)); go_simp; refine hK _ _ ?_; clear hK K)
      | (refine wp_cond_true ?hc ?_; (case hc => (simp [Act.eval, hV, hfs]; (try omega); done)))
      | (refine wp_cond_false ?hc ?_; (case hc => (simp [Act.eval, hV, hfs]; (try omega); done)))
      | go_step)
    exact fin.out a _ false hD hV (by simp [hfs])
  refine wp_cond_false ?hc ?_
  case hc => (simp [Act.eval, hV, hfs]; (try omega); done)
  go_step
  go_step
  go_step
  obtain ⟨t', ht', htt⟩ : ∃ t' : Int, t + (L 9 : Int) = t' ∧ 0 ≤ t' := ⟨_, rfl, by omega⟩
  obtain ⟨f', hV', h0', h3', h5'⟩ : ∃ f' : Nat → Value, (∀ j, j < 258 → a.tmps[j]? = some (f' j)) ∧ f' 0 = .slice T.oA n T.oc ∧ f' 5 = .pointer (some ⟨S, 0, none⟩) ∧ f' 9 = .int .i64 t' := ⟨_, hV, by simp [hfs, h0], by simp [hfs, h3], by simp [hfs, ht']⟩
  clear hV h0 h3 ew9 qa9 u9
  try clear h5
  try clear h6
  have qt' : t' ≤ 1048576 := by omega
  clear ht' qb9
  try clear ht ht2
  try clear t
  try clear f
  obtain ⟨f, hV, h0, h3, h5⟩ : ∃ f : Nat → Value, (∀ j, j < 258 → a.tmps[j]? = some (f j)) ∧ f 0 = .slice T.oA n T.oc ∧ f 5 = .pointer (some ⟨S, 0, none⟩) ∧ f 9 = .int .i64 t' := ⟨f', hV', h0', h3', h5'⟩
  clear hV' h0' h3' h5' f'
  obtain ⟨t, rfl⟩ : ∃ t : Int, t = t' := ⟨_, rfl⟩
  have ht : 0 ≤ t := htt
  have ht2 : t ≤ 1048576 := qt'
  clear htt qt'
  repeat (first
    | (refine wpList_put hD hV ?hd ?_; (case hd => decide); clear hD hV; (try clear a); intro a hD hV)
    | ((first | refine wpList_plain rfl (fun K hK => ?_) | refine wpList_step (fun K hK => ?_)); go_simp; refine hK _ _ ?_; clear hK K)
    | (refine wp_cond_true ?hc ?_; (case hc => (simp [Act.eval, hV, hfs]; (try omega); done)))
    | (refine wp_cond_false ?hc ?_; (case hc => (simp [Act.eval, hV, hfs]; (try omega); done)))
    | go_step)
  have u10' := HML.out 10
  unfold maxLen at u10'
  have u10 : (0 : Int) ≤ (L 10 : Int) := by omega
  by_cases qa10 : (1048576 : Int) < (L 10 : Int)
  · repeat (first
      | (refine wpList_put hD hV ?hd ?_; (case hd => decide); clear hD hV; (try clear a); intro a hD hV)
      | ((first | refine wpList_plain rfl (fun K hK => ?_) | refine wpList_step (fun K hK => ?_)); go_simp; refine hK _ _ ?_; clear hK K)
      | (refine wp_cond_true ?hc ?_; (case hc => (simp [Act.eval, hV, hfs]; (try omega); done)))
      | (refine wp_cond_false ?hc ?_; (case hc => (simp [Act.eval, hV, hfs]; (try omega); done)))
      | go_step)
    exact fin.out a _ false hD hV (by simp [hfs])
  have ew10 : IntKind.i64.wrap (t + (L 10 : Int)) = t + (L 10 : Int) := w64' (by unfold i64; omega)
  refine wp_cond_false ?hc ?_
  case hc => (simp [Act.eval, hV, hfs]; (try omega); done)
  go_step
  go_step
  go_step
  repeat (first
    | (refine wpList_put hD hV ?hd ?_; (case hd => decide); clear hD hV; (try clear a); intro a hD hV)
    | ((first | refine wpList_plain rfl (fun K hK => ?_) | refine wpList_step (fun K hK => ?_)); go_simp; refine hK _ _ ?_; clear hK K)
    | (refine wp_cond_true ?hc ?_; (case hc => (simp [Act.eval, hV, hfs]; (try omega); done)))
    | (refine wp_cond_false ?hc ?_; (case hc => (simp [Act.eval, hV, hfs]; (try omega); done)))
    | go_step)
  by_cases qb10 : (1048576 : Int) < t + (L 10 : Int)
  · repeat (first
      | (refine wpList_put hD hV ?hd ?_; (case hd => decide); clear hD hV; (try clear a); intro a hD hV)
      | ((first | refine wpList_plain rfl (fun K hK => ?_) | refine wpList_step (fun K hK => ?_)); go_simp; refine hK _ _ ?_; clear hK K)
      | (refine wp_cond_true ?hc ?_; (case hc => (simp [Act.eval, hV, hfs]; (try omega); done)))
      | (refine wp_cond_false ?hc ?_; (case hc => (simp [Act.eval, hV, hfs]; (try omega); done)))
      | go_step)
    exact fin.out a _ false hD hV (by simp [hfs])
  refine wp_cond_false ?hc ?_
  case hc => (simp [Act.eval, hV, hfs]; (try omega); done)
  go_step
  go_step
  go_step
  obtain ⟨t', ht', htt⟩ : ∃ t' : Int, t + (L 10 : Int) = t' ∧ 0 ≤ t' := ⟨_, rfl, by omega⟩
  obtain ⟨f', hV', h0', h3', h5'⟩ : ∃ f' : Nat → Value, (∀ j, j < 258 → a.tmps[j]? = some (f' j)) ∧ f' 0 = .slice T.oA n T.oc ∧ f' 5 = .pointer (some ⟨S, 0, none⟩) ∧ f' 9 = .int .i64 t' := ⟨_, hV, by simp [hfs, h0], by simp [hfs, h3], by simp [hfs, ht']⟩
  clear hV h0 h3 ew10 qa10 u10
  try clear h5
  try clear h6
  have qt' : t' ≤ 1048576 := by omega
  clear ht' qb10
  try clear ht ht2
  try clear t
  try clear f
  obtain ⟨f, hV, h0, h3, h5⟩ : ∃ f : Nat → Value, (∀ j, j < 258 → a.tmps[j]? = some (f j)) ∧ f 0 = .slice T.oA n T.oc ∧ f 5 = .pointer (some ⟨S, 0, none⟩) ∧ f 9 = .int .i64 t' := ⟨f', hV', h0', h3', h5'⟩
  clear hV' h0' h3' h5' f'
  obtain ⟨t, rfl⟩ : ∃ t : Int, t = t' := ⟨_, rfl⟩
  have ht : 0 ≤ t := htt
  have ht2 : t ≤ 1048576 := qt'
  clear htt qt'
  repeat (first
    | (refine wpList_put hD hV ?hd ?_; (case hd => decide); clear hD hV; (try clear a); intro a hD hV)
    | ((first | refine wpList_plain rfl (fun K hK => ?_) | refine wpList_step (fun K hK => ?_)); go_simp; refine hK _ _ ?_; clear hK K)
    | (refine wp_cond_true ?hc ?_; (case hc => (simp [Act.eval, hV, hfs]; (try omega); done)))
    | (refine wp_cond_false ?hc ?_; (case hc => (simp [Act.eval, hV, hfs]; (try omega); done)))
    | go_step)
  have u11' := HML.out 11
  unfold maxLen at u11'
  have u11 : (0 : Int) ≤ (L 11 : Int) := by omega
  by_cases qa11 : (1048576 : Int) < (L 11 : Int)
  · repeat (first
      | (refine wpList_put hD hV ?hd ?_; (case hd => decide); clear hD hV; (try clear a); intro a hD hV)
      | ((first | refine wpList_plain rfl (fun K hK => ?_) | refine wpList_step (fun K hK => ?_)); go_simp; refine hK _ _ ?_; clear hK K)
      | (refine wp_cond_true ?hc ?_; (case hc => (simp [Act.eval, hV, hfs]; (try omega); done)))
      | (refine wp_cond_false ?hc ?_; (case hc => (simp [Act.eval, hV, hfs]; (try omega); done)))
      | go_step)
    exact fin.out a _ false hD hV (by simp [hfs])
  have ew11 : IntKind.i64.wrap (t + (L 11 : Int)) = t + (L 11 : Int) := w64' (by unfold i64; omega)
  refine wp_cond_false ?hc ?_
  case hc => (simp [Act.eval, hV, hfs]; (try omega); done)
  go_step
  go_step
  go_step
  repeat (first
    | (refine wpList_put hD hV ?hd ?_; (case hd => decide); clear hD hV; (try clear a); intro a hD hV)
    | ((first | refine wpList_plain rfl (fun K hK => ?_) | refine wpList_step (fun K hK => ?_)); go_simp; refine hK _ _ ?_; clear hK K)
    | (refine wp_cond_true ?hc ?_; (case hc => (simp [Act.eval, hV, hfs]; (try omega); done)))
    | (refine wp_cond_false ?hc ?_; (case hc => (simp [Act.eval, hV, hfs]; (try omega); done)))
    | go_step)
  by_cases qb11 : (1048576 : Int) < t + (L 11 : Int)
  · repeat (first
      | (refine wpList_put hD hV ?hd ?_; (case hd => decide); clear hD hV; (try clear a); intro a hD hV)
      | ((first | refine wpList_plain rfl (fun K hK => ?_) | refine wpList_step (fun K hK => ?_)); go_simp; refine hK _ _ ?_; clear hK K)
      | (refine wp_cond_true ?hc ?_; (case hc => (simp [Act.eval, hV, hfs]; (try omega); done)))
      | (refine wp_cond_false ?hc ?_; (case hc => (simp [Act.eval, hV, hfs]; (try omega); done)))
      | go_step)
    exact fin.out a _ false hD hV (by simp [hfs])
  refine wp_cond_false ?hc ?_
  case hc => (simp [Act.eval, hV, hfs]; (try omega); done)
  go_step
  go_step
  go_step
  obtain ⟨t', ht', htt⟩ : ∃ t' : Int, t + (L 11 : Int) = t' ∧ 0 ≤ t' := ⟨_, rfl, by omega⟩
  obtain ⟨f', hV', h0', h3', h5'⟩ : ∃ f' : Nat → Value, (∀ j, j < 258 → a.tmps[j]? = some (f' j)) ∧ f' 0 = .slice T.oA n T.oc ∧ f' 5 = .pointer (some ⟨S, 0, none⟩) ∧ f' 9 = .int .i64 t' := ⟨_, hV, by simp [hfs, h0], by simp [hfs, h3], by simp [hfs, ht']⟩
  clear hV h0 h3 ew11 qa11 u11
  try clear h5
  try clear h6
  have qt' : t' ≤ 1048576 := by omega
  clear ht' qb11
  try clear ht ht2
  try clear t
  try clear f
  obtain ⟨f, hV, h0, h3, h5⟩ : ∃ f : Nat → Value, (∀ j, j < 258 → a.tmps[j]? = some (f j)) ∧ f 0 = .slice T.oA n T.oc ∧ f 5 = .pointer (some ⟨S, 0, none⟩) ∧ f 9 = .int .i64 t' := ⟨f', hV', h0', h3', h5'⟩
  clear hV' h0' h3' h5' f'
  obtain ⟨t, rfl⟩ : ∃ t : Int, t = t' := ⟨_, rfl⟩
  have ht : 0 ≤ t := htt
  have ht2 : t ≤ 1048576 := qt'
  clear htt qt'
  repeat (first
    | (refine wpList_put hD hV ?hd ?_; (case hd => decide); clear hD hV; (try clear a); intro a hD hV)
    | ((first | refine wpList_plain rfl (fun K hK => ?_) | refine wpList_step (fun K hK => ?_)); go_simp; refine hK _ _ ?_; clear hK K)
    | (refine wp_cond_true ?hc ?_; (case hc => (simp [Act.eval, hV, hfs]; (try omega); done)))
    | (refine wp_cond_false ?hc ?_; (case hc => (simp [Act.eval, hV, hfs]; (try omega); done)))
    | go_step)
  have u12' := HML.out 12
  unfold maxLen at u12'
  have u12 : (0 : Int) ≤ (L 12 : Int) := by omega
  by_cases qa12 : (1048576 : Int) < (L 12 : Int)
  · repeat (first
      | (refine wpList_put hD hV ?hd ?_; (case hd => decide); clear hD hV; (try clear a); intro a hD hV)
      | ((first | refine wpList_plain rfl (fun K hK => ?_) | refine wpList_step (fun K hK => ?_)); go_simp; refine hK _ _ ?_; clear hK K)
      | (refine wp_cond_true ?hc ?_; (case hc => (simp [Act.eval, hV, hfs]; (try omega); done)))
      | (refine wp_cond_false ?hc ?_; (case hc => (simp [Act.eval, hV, hfs]; (try omega); done)))
      | go_step)
    exact fin.out a _ false hD hV (by simp [hfs])
  have ew12 : IntKind.i64.wrap (t + (L 12 : Int)) = t + (L 12 : Int) := w64' (by unfold i64; omega)
  refine wp_cond_false ?hc ?_
  case hc => (simp [Act.eval, hV, hfs]; (try omega); done)
  go_step
  go_step
  go_step
  repeat (first
    | (refine wpList_put hD hV ?hd ?_; (case hd => decide); clear hD hV; (try clear a); intro a hD hV)
    | ((first | refine wpList_plain rfl (fun K hK => ?_) | refine wpList_step (fun K hK => ?_)); go_simp; refine hK _ _ ?_; clear hK K)
    | (refine wp_cond_true ?hc ?_; (case hc => (simp [Act.eval, hV, hfs]; (try omega); done)))
    | (refine wp_cond_false ?hc ?_; (case hc => (simp [Act.eval, hV, hfs]; (try omega); done)))
    | go_step)
  by_cases qb12 : (1048576 : Int) < t + (L 12 : Int)
  · repeat (first
      | (refine wpList_put hD hV ?hd ?_; (case hd => decide); clear hD hV; (try clear a); intro a hD hV)
      | ((first | refine wpList_plain rfl (fun K hK => ?_) | refine wpList_step (fun K hK => ?_)); go_simp; refine hK _ _ ?_; clear hK K)
      | (refine wp_cond_true ?hc ?_; (case hc => (simp [Act.eval, hV, hfs]; (try omega); done)))
      | (refine wp_cond_false ?hc ?_; (case hc => (simp [Act.eval, hV, hfs]; (try omega); done)))
      | go_step)
    exact fin.out a _ false hD hV (by simp [hfs])
  refine wp_cond_false ?hc ?_
  case hc => (simp [Act.eval, hV, hfs]; (try omega); done)
  go_step
  go_step
  go_step
  obtain ⟨t', ht', htt⟩ : ∃ t' : Int, t + (L 12 : Int) = t' ∧ 0 ≤ t' := ⟨_, rfl, by omega⟩
  obtain ⟨f', hV', h0', h3', h5'⟩ : ∃ f' : Nat → Value, (∀ j, j < 258 → a.tmps[j]? = some (f' j)) ∧ f' 0 = .slice T.oA n T.oc ∧ f' 5 = .pointer (some ⟨S, 0, none⟩) ∧ f' 9 = .int .i64 t' := ⟨_, hV, by simp [hfs, h0], by simp [hfs, h3], by simp [hfs, ht']⟩
  clear hV h0 h3 ew12 qa12 u12
  try clear h5
  try clear h6
  have qt' : t' ≤ 1048576 := by omega
  clear ht' qb12
  try clear ht ht2
  try clear t
  try clear f
  obtain ⟨f, hV, h0, h3, h5⟩ : ∃ f : Nat → Value, (∀ j, j < 258 → a.tmps[j]? = some (f j)) ∧ f 0 = .slice T.oA n T.oc ∧ f 5 = .pointer (some ⟨S, 0, none⟩) ∧ f 9 = .int .i64 t' := ⟨f', hV', h0', h3', h5'⟩
  clear hV' h0' h3' h5' f'
  obtain ⟨t, rfl⟩ : ∃ t : Int, t = t' := ⟨_, rfl⟩
  have ht : 0 ≤ t := htt
  have ht2 : t ≤ 1048576 := qt'
  clear htt qt'
  repeat (first
    | (refine wpList_put hD hV ?hd ?_; (case hd => decide); clear hD hV; (try clear a); intro a hD hV)
    | ((first | refine wpList_plain rfl (fun K hK => ?_) | refine wpList_step (fun K hK => ?_)); go_simp; refine hK _ _ ?_; clear hK K)
    | (refine wp_cond_true ?hc ?_; (case hc => (simp [Act.eval, hV, hfs]; (try omega); done)))
    | (refine wp_cond_false ?hc ?_; (case hc => (simp [Act.eval, hV, hfs]; (try omega); done)))
    | go_step)
  have u13' := HML.out 13
  unfold maxLen at u13'
  have u13 : (0 : Int) ≤ (L 13 : Int) := by omega
  by_cases qa13 : (1048576 : Int) < (L 13 : Int)
  · repeat (first
      | (refine wpList_put hD hV ?hd ?_; (case hd => decide); clear hD hV; (try clear a); intro a hD hV)
      | ((first | refine wpList_plain rfl (fun K hK => ?_) | refine wpList_step (fun K hK => ?_)); go_simp; refine hK _ _ ?_; clear hK K)
      | (refine wp_cond_true ?hc ?_; (case hc => (simp [Act.eval, hV, hfs]; (try omega); done)))
      | (refine wp_cond_false ?hc ?_; (case hc => (simp [Act.eval, hV, hfs]; (try omega); done)))
      | go_step)
    exact fin.out a _ false hD hV (by simp [hfs])
  have ew13 : IntKind.i64.wrap (t + (L 13 : Int)) = t + (L 13 : Int) := w64' (by unfold i64; omega)
  refine wp_cond_false ?hc ?_
  case hc => (simp [Act.eval, hV, hfs]; (try omega); done)
  go_step
  go_step
  go_step
  repeat (first
    | (refine wpList_put hD hV ?hd ?_; (case hd => decide); clear hD hV; (try clear a); intro a hD hV)
    | ((first | refine wpList_plain rfl (fun K hK => ?_) | refine wpList_step (fun K hK => ?_)); go_simp; refine hK _ _ ?_; clear hK K)
    | (refine wp_cond_true ?hc ?_; (case hc => (simp [Act.eval, hV, hfs]; (try omega); done)))
    | (refine wp_cond_false ?hc ?_; (case hc => (simp [Act.eval, hV, hfs]; (try omega); done)))
    | go_step)
  by_cases qb13 : (1048576 : Int) < t + (L 13 : Int)
  · repeat (first
      | (refine wpList_put hD hV ?hd ?_; (case hd => decide); clear hD hV; (try clear a); intro a hD hV)
      | ((first | refine wpList_plain rfl (fun K hK => ?_) | refine wpList_step (fun K hK => ?_)); go_simp; refine hK _ _ ?_; clear hK K)
      | (refine wp_cond_true ?hc ?_; (case hc => (simp [Act.eval, hV, hfs]; (try omega); done)))
      | (refine wp_cond_false ?hc ?_; (case hc => (simp [Act.eval, hV, hfs]; (try omega); done)))
      | go_step)
    exact fin.out a _ false hD hV (by simp [hfs])
  refine wp_cond_false ?hc ?_
  case hc => (simp [Act.eval, hV, hfs]; (try omega); done)
  go_step
  go_step
  go_step
  obtain ⟨t', ht', htt⟩ : ∃ t' : Int, t + (L 13 : Int) = t' ∧ 0 ≤ t' := ⟨_, rfl, by omega⟩
  obtain ⟨f', hV', h0', h3', h5'⟩ : ∃ f' : Nat → Value, (∀ j, j < 258 → a.tmps[j]? = some (f' j)) ∧ f' 0 = .slice T.oA n T.oc ∧ f' 5 = .pointer (some ⟨S, 0, none⟩) ∧ f' 9 = .int .i64 t' := ⟨_, hV, by simp [hfs, h0], by simp [hfs, h3], by simp [hfs, ht']⟩
  clear hV h0 h3 ew13 qa13 u13
  try clear h5
  try clear h6
  have qt' : t' ≤ 1048576 := by omega
  clear ht' qb13
  try clear ht ht2
  try clear t
  try clear f
  obtain ⟨f, hV, h0, h3, h5⟩ : ∃ f : Nat → Value, (∀ j, j < 258 → a.tmps[j]? = some (f j)) ∧ f 0 = .slice T.oA n T.oc ∧ f 5 = .pointer (some ⟨S, 0, none⟩) ∧ f 9 = .int .i64 t' := ⟨f', hV', h0', h3', h5'⟩
  clear hV' h0' h3' h5' f'
  obtain ⟨t, rfl⟩ : ∃ t : Int, t = t' := ⟨_, rfl⟩
  have ht : 0 ≤ t := htt
  have ht2 : t ≤ 1048576 := qt'
  clear htt qt'
  repeat (first
    | (refine wpList_put hD hV ?hd ?_; (case hd => decide); clear hD hV; (try clear a); intro a hD hV)
    | ((first | refine wpList_plain rfl (fun K hK => ?_) | refine wpList_step (fun K hK => ?_)); go_simp; refine hK _ _ ?_; clear hK K)
    | (refine wp_cond_true ?hc ?_; (case hc => (simp [Act.eval, hV, hfs]; (try omega); done)))
    | (refine wp_cond_false ?hc ?_; (case hc => (simp [Act.eval, hV, hfs]; (try omega); done)))
    | go_step)
  have u14' := HML.out 14
  unfold maxLen at u14'
  have u14 : (0 : Int) ≤ (L 14 : Int) := by omega
  by_cases qa14 : (1048576 : Int) < (L 14 : Int)
  · repeat (first
      | (refine wpList_put hD hV ?hd ?_; (case hd => decide); clear hD hV; (try clear a); intro a hD hV)
      | ((first | refine wpList_plain rfl (fun K hK => ?_) | refine wpList_step (fun K hK => ?_)); go_simp; refine hK _ _ ?_; clear hK K)
      | (refine wp_cond_true ?hc ?_; (case hc => (simp [Act.eval, hV, hfs]; (try omega); done)))
      | (refine wp_cond_false ?hc ?_; (case hc => (simp [Act.eval, hV, hfs]; (try omega); done)))
      | go_step)
    exact fin.out a _ false hD hV (by simp [hfs])
  have ew14 : IntKind.i64.wrap (t + (L 14 : Int)) = t + (L 14 : Int) := w64' (by unfold i64; omega)
  refine wp_cond_false ?hc ?_
  case hc => (simp [Act.eval, hV, hfs]; (try omega); done)
  go_step
  go_step
  go_step
  repeat (first
    | (refine wpList_put hD hV ?hd ?_; (case hd => decide); clear hD hV; (try clear a); intro a hD hV)
    | ((first | refine wpList_plain rfl (fun K hK => ?_) | refine wpList_step (fun K hK => ?_)); go_simp; refine hK _ _ ?_; clear hK K)
    | (refine wp_cond_true ?hc ?_; (case hc => (simp [Act.eval, hV, hfs]; (try omega); done)))
    | (refine wp_cond_false ?hc ?_; (case hc => (simp [Act.eval, hV, hfs]; (try omega); done)))
    | go_step)
  by_cases qb14 : (1048576 : Int) < t + (L 14 : Int)
  · repeat (first
      | (refine wpList_put hD hV ?hd ?_; (case hd => decide); clear hD hV; (try clear a); intro a hD hV)
      | ((first | refine wpList_plain rfl (fun K hK => ?_) | refine wpList_step (fun K hK => ?_)); go_simp; refine hK _ _ ?_; clear hK K)
      | (refine wp_cond_true ?hc ?_; (case hc => (simp [Act.eval, hV, hfs]; (try omega); done)))
      | (refine wp_cond_false ?hc ?_; (case hc => (simp [Act.eval, hV, hfs]; (try omega); done)))
      | go_step)
    exact fin.out a _ false hD hV (by simp [hfs])
  refine wp_cond_false ?hc ?_
  case hc => (simp [Act.eval, hV, hfs]; (try omega); done)
  go_step
  go_step
  go_step
  obtain ⟨t', ht', htt⟩ : ∃ t' : Int, t + (L 14 : Int) = t' ∧ 0 ≤ t' := ⟨_, rfl, by omega⟩
  obtain ⟨f', hV', h0', h3', h5'⟩ : ∃ f' : Nat → Value, (∀ j, j < 258 → a.tmps[j]? = some (f' j)) ∧ f' 0 = .slice T.oA n T.oc ∧ f' 5 = .pointer (some ⟨S, 0, none⟩) ∧ f' 9 = .int .i64 t' := ⟨_, hV, by simp [hfs, h0], by simp [hfs, h3], by simp [hfs, ht']⟩
  clear hV h0 h3 ew14 qa14 u14
  try clear h5
  try clear h6
  have qt' : t' ≤ 1048576 := by omega
  clear ht' qb14
  try clear ht ht2
  try clear t
  try clear f
  obtain ⟨f, hV, h0, h3, h5⟩ : ∃ f : Nat → Value, (∀ j, j < 258 → a.tmps[j]? = some (f j)) ∧ f 0 = .slice T.oA n T.oc ∧ f 5 = .pointer (some ⟨S, 0, none⟩) ∧ f 9 = .int .i64 t' := ⟨f', hV', h0', h3', h5'⟩
  clear hV' h0' h3' h5' f'
  obtain ⟨t, rfl⟩ : ∃ t : Int, t = t' := ⟨_, rfl⟩
  have ht : 0 ≤ t := htt
  have ht2 : t ≤ 1048576 := qt'
  clear htt qt'
  repeat (first
    | (refine wpList_put hD hV ?hd ?_; (case hd => decide); clear hD hV; (try clear a); intro a hD hV)
    | ((first | refine wpList_plain rfl (fun K hK => ?_) | refine wpList_step (fun K hK => ?_)); go_simp; refine hK _ _ ?_; clear hK K)
    | (refine wp_cond_true ?hc ?_; (case hc => (simp [Act.eval, hV, hfs]; (try omega); done)))
    | (refine wp_cond_false ?hc ?_; (case hc => (simp [Act.eval, hV, hfs]; (try omega); done)))
    | go_step)
  have u15' := HML.out 15
  unfold maxLen at u15'
  have u15 : (0 : Int) ≤ (L 15 : Int) := by omega
  by_cases qa15 : (1048576 : Int) < (L 15 : Int)
  · repeat (first
      | (refine wpList_put hD hV ?hd ?_; (case hd => decide); clear hD hV; (try clear a); intro a hD hV)
      | ((first | refine wpList_plain rfl (fun K hK => ?_) | refine wpList_step (fun K hK => ?_)); go_simp; refine hK _ _ ?_; clear hK K)
      | (refine wp_cond_true ?hc ?_; (case hc => (simp [Act.eval, hV, hfs]; (try omega); done)))
      | (refine wp_cond_false ?hc ?_; (case hc => (simp [Act.eval, hV, hfs]; (try omega); done)))
      | go_step)
    exact fin.out a _ false hD hV (by simp [hfs])
  have ew15 : IntKind.i64.wrap (t + (L 15 : Int)) = t + (L 15 : Int) := w64' (by unfold i64; omega)
  refine wp_cond_false ?hc ?_
  case hc => (simp [Act.eval, hV, hfs]; (try omega); done)
  go_step
  go_step
  go_step
  repeat (first
    | (refine wpList_put hD hV ?hd ?_; (case hd => decide); clear hD hV; (try clear a); intro a hD hV)
    | ((first | refine wpList_plain rfl (fun K hK => ?_) | refine wpList_step (fun K hK => ?_)); go_simp; refine hK _ _ ?_; clear hK K)
    | (refine wp_cond_true ?hc ?_; (case hc => (simp [Act.eval, hV, hfs]; (try omega); done)))
    | (refine wp_cond_false ?hc ?_; (case hc => (simp [Act.eval, hV, hfs]; (try omega); done)))
    | go_step)
  by_cases qb15 : (1048576 : Int) < t + (L 15 : Int)
  · repeat (first
      | (refine wpList_put hD hV ?hd ?_; (case hd => decide); clear hD hV; (try clear a); intro a hD hV)
      | ((first | refine wpList_plain rfl (fun K hK => ?_) | refine wpList_step (fun K hK => ?_)); go_simp; refine hK _ _ ?_; clear hK K)
      | (refine wp_cond_true ?hc ?_; (case hc => (simp [Act.eval, hV, hfs]; (try omega); done)))
      | (refine wp_cond_false ?hc ?_; (case hc => (simp [Act.eval, hV, hfs]; (try omega); done)))
      | go_step)
    exact fin.out a _ false hD hV (by simp [hfs])
  refine wp_cond_false ?hc ?_
  case hc => (simp [Act.eval, hV, hfs]; (try omega); done)
  go_step
  go_step
  go_step
  obtain ⟨t', ht', htt⟩ : ∃ t' : Int, t + (L 15 : Int) = t' ∧ 0 ≤ t' := ⟨_, rfl, by omega⟩
  obtain ⟨f', hV', h0', h3', h5'⟩ : ∃ f' : Nat → Value, (∀ j, j < 258 → a.tmps[j]? = some (f' j)) ∧ f' 0 = .slice T.oA n T.oc ∧ f' 5 = .pointer (some ⟨S, 0, none⟩) ∧ f' 9 = .int .i64 t' := ⟨_, hV, by simp [hfs, h0], by simp [hfs, h3], by simp [hfs, ht']⟩
  clear hV h0 h3 ew15 qa15 u15
  try clear h5
  try clear h6
  have qt' : t' ≤ 1048576 := by omega
  clear ht' qb15
  try clear ht ht2
  try clear t
  try clear f
  obtain ⟨f, hV, h0, h3, h5⟩ : ∃ f : Nat → Value, (∀ j, j < 258 → a.tmps[j]? = some (f j)) ∧ f 0 = .slice T.oA n T.oc ∧ f 5 = .pointer (some ⟨S, 0, none⟩) ∧ f 9 = .int .i64 t' := ⟨f', hV', h0', h3', h5'⟩
  clear hV' h0' h3' h5' f'
  obtain ⟨t, rfl⟩ : ∃ t : Int, t = t' := ⟨_, rfl⟩
  have ht : 0 ≤ t := htt
  have ht2 : t ≤ 1048576 := qt'
  clear htt qt'
  repeat (first
    | (refine wpList_put hD hV ?hd ?_; (case hd => decide); clear hD hV; (try clear a); intro a hD hV)
    | ((first | refine wpList_plain rfl (fun K hK => ?_) | refine wpList_step (fun K hK => ?_)); go_simp; refine hK _ _ ?_; clear hK K)
    | (refine wp_cond_true ?hc ?_; (case hc => (simp [Act.eval, hV, hfs]; (try omega); done)))
    | (refine wp_cond_false ?hc ?_; (case hc => (simp [Act.eval, hV, hfs]; (try omega); done)))
    | go_step)
  have u16' := HML.out 16
  unfold maxLen at u16'
  have u16 : (0 : Int) ≤ (L 16 : Int) := by omega
  by_cases qa16 : (1048576 : Int) < (L 16 : Int)
  · repeat (first
      | (refine wpList_put hD hV ?hd ?_; (case hd => decide); clear hD hV; (try clear a); intro a hD hV)
      | ((first | refine wpList_plain rfl (fun K hK => ?_) | refine wpList_step (fun K hK => ?_)); go_simp; refine hK _ _ ?_; clear hK K)
      | (refine wp_cond_true ?hc ?_; (case hc => (simp [Act.eval, hV, hfs]; (try omega); done)))
      | (refine wp_cond_false ?hc ?_; (case hc => (simp [Act.eval, hV, hfs]; (try omega); done)))
      | go_step)
    exact fin.out a _ false hD hV (by simp [hfs])
  have ew16 : IntKind.i64.wrap (t + (L 16 : Int)) = t + (L 16 : Int) := w64' (by unfold i64; omega)
  refine wp_cond_false ?hc ?_
  case hc => (simp [Act.eval, hV, hfs]; (try omega); done)
  go_step
  go_step
  go_step
  repeat (first
    | (refine wpList_put hD hV ?hd ?_; (case hd => decide); clear hD hV; (try clear a); intro a hD hV)
    | ((first | refine wpList_plain rfl (fun K hK => ?_) | refine wpList_step (fun K hK => ?_)); go_simp; refine hK _ _ ?_; clear hK K)
    | (refine wp_cond_true ?hc ?_; (case hc => (simp [Act.eval, hV, hfs]; (try omega); done)))
    | (refine wp_cond_false ?hc ?_; (case hc => (simp [Act.eval, hV, hfs]; (try omega); done)))
    | go_step)
  by_cases qb16 : (1048576 : Int) < t + (L 16 : Int)
  · repeat (first
      | (refine wpList_put hD hV ?hd ?_; (case hd => decide); clear hD hV; (try clear a); intro a hD hV)
      | ((first | refine wpList_plain rfl (fun K hK => ?_) | refine wpList_step (fun K hK => ?_)); go_simp; refine hK _ _ ?_; clear hK K)
      | (refine wp_cond_true ?hc ?_; (case hc => (simp [Act.eval, hV, hfs]; (try omega); done)))
      | (refine wp_cond_false ?hc ?_; (case hc => (simp [Act.eval, hV, hfs]; (try omega); done)))
      | go_step)
    exact fin.out a _ false hD hV (by simp [hfs])
  refine wp_cond_false ?hc ?_
  case hc => (simp [Act.eval, hV, hfs]; (try omega); done)
  go_step
  go_step
  go_step
  obtain ⟨t', ht', htt⟩ : ∃ t' : Int, t + (L 16 : Int) = t' ∧ 0 ≤ t' := ⟨_, rfl, by omega⟩
  obtain ⟨f', hV', h0', h3', h5'⟩ : ∃ f' : Nat → Value, (∀ j, j < 258 → a.tmps[j]? = some (f' j)) ∧ f' 0 = .slice T.oA n T.oc ∧ f' 5 = .pointer (some ⟨S, 0, none⟩) ∧ f' 9 = .int .i64 t' := ⟨_, hV, by simp [hfs, h0], by simp [hfs, h3], by simp [hfs, ht']⟩
  clear hV h0 h3 ew16 qa16 u16
  try clear h5
  try clear h6
  have qt' : t' ≤ 1048576 := by omega
  clear ht' qb16
  try clear ht ht2
  try clear t
  try clear f
  obtain ⟨f, hV, h0, h3, h5⟩ : ∃ f : Nat → Value, (∀ j, j < 258 → a.tmps[j]? = some (f j)) ∧ f 0 = .slice T.oA n T.oc ∧ f 5 = .pointer (some ⟨S, 0, none⟩) ∧ f 9 = .int .i64 t' := ⟨f', hV', h0', h3', h5'⟩
  clear hV' h0' h3' h5' f'
  obtain ⟨t, rfl⟩ : ∃ t : Int, t = t' := ⟨_, rfl⟩
  have ht : 0 ≤ t := htt
  have ht2 : t ≤ 1048576 := qt'
  clear htt qt'
  repeat (first
    | (refine wpList_put hD hV ?hd ?_; (case hd => decide); clear hD hV; (try clear a); intro a hD hV)
    | ((first | refine wpList_plain rfl (fun K hK => ?_) | refine wpList_step (fun K hK => ?_)); go_simp; refine hK _ _ ?_; clear hK K)
    | (refine wp_cond_true ?hc ?_; (case hc => (simp [Act.eval, hV, hfs]; (try omega); done)))
    | (refine wp_cond_false ?hc ?_; (case hc => (simp [Act.eval, hV, hfs]; (try omega); done)))
    | go_step)
  refine wp_loop_f (N := 258) (fun m f w' => ∃ (k : Nat) (t : Int), k ≤ L 16 ∧ m = L 16 - k ∧ w' = W ∧ 0 ≤ t ∧ t ≤ 1048576 ∧ f 9 = .int .i64 t ∧ f 12 = .int .i64 (k : Nat) ∧ f 0 = .slice T.oA n T.oc ∧ f 5 = .pointer (some ⟨S, 0, none⟩)) (L 16) hD hV
    ⟨0, t, by omega, by omega, rfl, by omega, by omega, by simp [hfs, h5], by simp [hfs], by simp [hfs, h0], by simp [hfs, h3]⟩ ?_
  clear h0 hD hV a f h3 h5 ht ht2 t
  intro mc f w' a hD hV ⟨k, t, hk, hm', hw, ht, ht2, h5, h6, h0, h3⟩ K hK
  obtain rfl : W = w' := hw.symm
  have HKc := hide hK
  clear hK hw
  by_cases hkn : k < L 16
  · have n16 := HR.out.n16 (by omega)
    have d16 := HR.out.d16 k hkn
    have hmc := HR.out.mll k hkn
    unfold maxLen at hmc
    have e4 : IntKind.i64.wrap ((k : Int) + 1) = (k : Int) + 1 := w64' (by unfold i64; omega)
    have uu : (0 : Int) ≤ ((ll k : Nat) : Int) := by omega
    repeat (first
      | (refine wpList_put hD hV ?hd ?_; (case hd => decide); clear hD hV; (try clear a); intro a hD hV)
      | ((first | refine wpList_plain rfl (fun K hK => ?_) | refine wpList_step (fun K hK => ?_)); go_simp; refine hK _ _ ?_; clear hK K)
      | (refine wp_cond_true ?hc ?_; (case hc => (simp [Act.eval, hV, hfs]; (try omega); done)))
      | (refine wp_cond_false ?hc ?_; (case hc => (simp [Act.eval, hV, hfs]; (try omega); done)))
      | go_step)
    by_cases q5 : (1048576 : Int) < ((ll k : Nat) : Int)
    · repeat (first
        | (refine wpList_put hD hV ?hd ?_; (case hd => decide); clear hD hV; (try clear a); intro a hD hV)
        | ((first | refine wpList_plain rfl (fun K hK => ?_) | refine wpList_step (fun K hK => ?_)); go_simp; refine hK _ _ ?_; clear hK K)
        | (refine wp_cond_true ?hc ?_; (case hc => (simp [Act.eval, hV, hfs]; (try omega); done)))
        | (refine wp_cond_false ?hc ?_; (case hc => (simp [Act.eval, hV, hfs]; (try omega); done)))
        | go_step)
      exact fin.out a _ false hD hV (by simp [hfs])
    have ew : IntKind.i64.wrap (t + ((ll k : Nat) : Int)) = t + ((ll k : Nat) : Int) := w64' (by unfold i64; omega)
    repeat (first
      | (refine wpList_put hD hV ?hd ?_; (case hd => decide); clear hD hV; (try clear a); intro a hD hV)
      | ((first | refine wpList_plain rfl (fun K hK => ?_) | refine wpList_step (fun K hK => ?_)); go_simp; refine hK _ _ ?_; clear hK K)
      | (refine wp_cond_true ?hc ?_; (case hc => (simp [Act.eval, hV, hfs]; (try omega); done)))
      | (refine wp_cond_false ?hc ?_; (case hc => (simp [Act.eval, hV, hfs]; (try omega); done)))
      | go_step)
    by_cases q6 : (1048576 : Int) < t + ((ll k : Nat) : Int)
    · repeat (first
        | (refine wpList_put hD hV ?hd ?_; (case hd => decide); clear hD hV; (try clear a); intro a hD hV)
        | ((first | refine wpList_plain rfl (fun K hK => ?_) | refine wpList_step (fun K hK => ?_)); go_simp; refine hK _ _ ?_; clear hK K)
        | (refine wp_cond_true ?hc ?_; (case hc => (simp [Act.eval, hV, hfs]; (try omega); done)))
        | (refine wp_cond_false ?hc ?_; (case hc => (simp [Act.eval, hV, hfs]; (try omega); done)))
        | go_step)
      exact fin.out a _ false hD hV (by simp [hfs])
    repeat (first
      | (refine wpList_put hD hV ?hd ?_; (case hd => decide); clear hD hV; (try clear a); intro a hD hV)
      | ((first | refine wpList_plain rfl (fun K hK => ?_) | refine wpList_step (fun K hK => ?_)); go_simp; refine hK _ _ ?_; clear hK K)
      | (refine wp_cond_true ?hc ?_; (case hc => (simp [Act.eval, hV, hfs]; (try omega); done)))
      | (refine wp_cond_false ?hc ?_; (case hc => (simp [Act.eval, hV, hfs]; (try omega); done)))
      | go_step)
    exact HKc.out a _ _ (L 16 - (k + 1)) hD hV (by omega) ⟨k + 1, t + ((ll k : Nat) : Int), by omega, rfl, rfl, by omega, by omega, by simp [hfs], by simp [hfs], by simp [hfs, h0], by simp [hfs, h3]⟩
  repeat (first
    | (refine wpList_put hD hV ?hd ?_; (case hd => decide); clear hD hV; (try clear a); intro a hD hV)
    | ((first | refine wpList_plain rfl (fun K hK => ?_) | refine wpList_step (fun K hK => ?_)); go_simp; refine hK _ _ ?_; clear hK K)
    | (refine wp_cond_true ?hc ?_; (case hc => (simp [Act.eval, hV, hfs]; (try omega); done)))
    | (refine wp_cond_false ?hc ?_; (case hc => (simp [Act.eval, hV, hfs]; (try omega); done)))
    | go_step)
  exact fin.out a _ true hD hV (by simp [hfs])
end Go.Proofs.Qxb6616080a
