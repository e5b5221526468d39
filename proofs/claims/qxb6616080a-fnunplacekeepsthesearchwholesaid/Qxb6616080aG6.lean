import Derived.Test.Qxb6616080aF18
namespace Go.Proofs.Qxb6616080a
open Go.RowKit
set_option linter.unusedVariables false
set_option linter.unusedSimpArgs false
set_option maxRecDepth 100000

/-- The struct as it comes in: the lengths whatever they are. -/
def rval (A : Nat → Option Addr) (L cap : Nat → Nat) (only tp : Int) (seed hash : Nat) : Array Value := #[.int .i32 only, .slice (A 1) (L 1) (cap 1), .slice (A 2) (L 2) (cap 2), .int .i64 tp, .slice (A 4) (L 4) (cap 4), .slice (A 5) (L 5) (cap 5), .slice (A 6) (L 6) (cap 6), .slice (A 7) (L 7) (cap 7), .slice (A 8) (L 8) (cap 8), .slice (A 9) (L 9) (cap 9), .slice (A 10) (L 10) (cap 10), .slice (A 11) (L 11) (cap 11), .slice (A 12) (L 12) (cap 12), .slice (A 13) (L 13) (cap 13), .slice (A 14) (L 14) (cap 14), .slice (A 15) (L 15) (cap 15), .slice (A 16) (L 16) (cap 16), .int .u64 (seed : Nat), .int .u64 (hash : Nat)]

theorem box_r (A : Nat → Option Addr) (L cap : Nat → Nat) (only tp : Int) (seed hash : Nat) (w : World) :
    (Instr.box 30 (.agg (rval A L cap only tp seed hash))).run Try.prog w = .ok (.pointer (some ⟨w.heap.size, 0, none⟩)) (w.alloc (.cells (rval A L cap only tp seed hash) 30)) := by
  unfold rval
  simp [go_sem]

/-- What the guards read. -/
structure Rw (W : World) (n : Nat) (T : Ad) (L cl ll : Nat → Nat) : Prop where
  n1 : 0 < L 1 → T.A 1 = some ⟨T.b 1, T.o 1, none⟩
  d1 : ∀ c, c < L 1 → W.cell? ⟨T.b 1, T.o 1 + c, none⟩ = some (.slice (T.cA c) (cl c) (T.cc c))
  n16 : 0 < L 16 → T.A 16 = some ⟨T.b 16, T.o 16, none⟩
  d16 : ∀ c, c < L 16 → W.cell? ⟨T.b 16, T.o 16 + c, none⟩ = some (.slice (T.lA c) (ll c) (T.lc c))
  on : 0 < n → T.oA = some ⟨T.ob, T.oo, none⟩
  o4 : ∀ i, i < n → ∃ s : ByteArray, W.cell? ⟨T.ob, T.oo + i * 6 + 4, none⟩ = some (.string s) ∧ s.size ≤ maxLen
  ml : ∀ i, L i ≤ maxLen
  mn : n ≤ maxLen
  mc : ∀ c, c < L 1 → cl c ≤ maxLen
  mll : ∀ l, l < L 16 → ll l ≤ maxLen
theorem cell_grow {w : World} {a : Addr} {v : Value} (h : w.cell? a = some v) (o : Obj) : (w.alloc o).cell? a = some v := (World.cell?_of_block (Below.heap_alloc w o a.block (World.block_lt_of_cell? w a h))).trans h
theorem Rw.grow {W : World} {n : Nat} {T : Ad} {L cl ll : Nat → Nat} (h : Rw W n T L cl ll) (o : Obj) : Rw (W.alloc o) n T L cl ll :=
  { h with
    d1 := fun c hc => cell_grow (h.d1 c hc) o
    d16 := fun c hc => cell_grow (h.d16 c hc) o
    o4 := fun i hi => by obtain ⟨s, h1, h2⟩ := h.o4 i hi; exact ⟨s, cell_grow h1 o, h2⟩ }

def Grow (t n z : Int) : Prop := 0 ≤ z ∧ z ≤ 50000000 ∧ (z ≤ 1048576 → n ≤ 1048576 ∧ t ≤ z)
theorem f17_to (t n wd : Int) (w : World) (h1 : 0 ≤ t) (h2 : 0 ≤ n) (h3 : 1 ≤ wd) (h4 : wd ≤ 40) : Calls Try.prog 17 #[.int .i64 t, .int .i64 n, .int .i64 wd] w fun e w' => ∃ z : Int, e = .returned (.int .i64 z) ∧ w' = w ∧ Grow t n z := by
  by_cases g1 : 1048576 < t
  · go_enter Try.func17, Try.ntmps17
    go_wp2
    go_ret
    exact ⟨_, rfl, rfl, by unfold Grow; omega⟩
  by_cases g2 : 1048576 < n
  · go_enter Try.func17, Try.ntmps17
    go_wp2
    go_ret
    exact ⟨_, rfl, rfl, by unfold Grow; omega⟩
  have b1 : 0 ≤ n * wd := Int.mul_nonneg h2 (by omega)
  have b2 : n * wd ≤ 1048576 * 40 := Int.mul_le_mul (by omega) h4 (by omega) (by omega)
  have e1 : IntKind.i64.wrap (n * wd) = n * wd := w64' (by unfold i64; omega)
  have e2 : IntKind.i64.wrap (t + n * wd) = t + n * wd := w64' (by unfold i64; omega)
  go_enter Try.func17, Try.ntmps17
  go_wp2
  go_ret
  exact ⟨_, rfl, rfl, by unfold Grow; omega⟩


set_option maxHeartbeats 4000000 in
theorem f6_to {T : Ad} {L cl ll : Nat → Nat} {n : Nat} {only tp : Int} {seed hash : Nat} {w : World} (hR : Rw w n T L cl ll) :
    Calls Try.prog 6 #[.slice T.oA n T.oc, .agg (rval T.A L T.cap only tp seed hash)] w fun e w' => ∃ r : Bool, e = .returned (.bool r) ∧ Below w.heap.size w w' ∧
      (r = false → n ≤ 4096 ∧ L 1 ≤ 4096 ∧ L 5 ≤ 4096 ∧ L 16 ≤ 1048576 ∧ (∀ c, c < L 1 → cl c ≤ 1048576) ∧ ∀ l, l < L 16 → ll l ≤ 1048576) := by
  refine enter_f Try.func6 rfl Try.ntmps6 (by simp) fun a hD hV0 => ?_
  have hfs := fset_at
  obtain ⟨f, hf⟩ : ∃ f : Nat → Value, f = fun j => (#[.slice T.oA n T.oc, .agg (rval T.A L T.cap only tp seed hash)] : Array Value).getD j undef := ⟨_, rfl⟩
  have h0 : f 0 = .slice T.oA n T.oc := by rw [hf]; rfl
  have h1 : f 1 = .agg (rval T.A L T.cap only tp seed hash) := by rw [hf]; rfl
  have hV : ∀ j, j < 154 → a.tmps[j]? = some (f j) := fun j hj => by rw [hV0 j hj, hf]
  have hbox := box_r T.A L T.cap only tp seed hash w
  obtain ⟨W, hWe⟩ : ∃ W, w.alloc (.cells (rval T.A L T.cap only tp seed hash) 30) = W := ⟨_, rfl⟩
  obtain ⟨S, hSe⟩ : ∃ S, w.heap.size = S := ⟨_, rfl⟩
  have hcell : ∀ i, i < 19 → W.cell? ⟨S, i, none⟩ = some ((rval T.A L T.cap only tp seed hash).getD i undef) := fun i hi => by
    rw [← hWe, ← hSe, World.cell?_alloc_new]
    have : i < (rval T.A L T.cap only tp seed hash).size := hi
    simp [this]
  have HBel : Hid (Below w.heap.size w W) := hWe ▸ (Below.refl _ _).alloc (Nat.le_refl _) _
  have HR := hide (hWe ▸ hR.grow _ : Rw W n T L cl ll)
  rw [hWe, hSe] at hbox
  have s1 : W.cell? ⟨S, 1, none⟩ = some (.slice (T.A 1) (L 1) (T.cap 1)) := hcell 1 (by decide)
  have s2 : W.cell? ⟨S, 2, none⟩ = some (.slice (T.A 2) (L 2) (T.cap 2)) := hcell 2 (by decide)
  have s4 : W.cell? ⟨S, 4, none⟩ = some (.slice (T.A 4) (L 4) (T.cap 4)) := hcell 4 (by decide)
  have s5 : W.cell? ⟨S, 5, none⟩ = some (.slice (T.A 5) (L 5) (T.cap 5)) := hcell 5 (by decide)
  have s6 : W.cell? ⟨S, 6, none⟩ = some (.slice (T.A 6) (L 6) (T.cap 6)) := hcell 6 (by decide)
  have s7 : W.cell? ⟨S, 7, none⟩ = some (.slice (T.A 7) (L 7) (T.cap 7)) := hcell 7 (by decide)
  have s8 : W.cell? ⟨S, 8, none⟩ = some (.slice (T.A 8) (L 8) (T.cap 8)) := hcell 8 (by decide)
  have s9 : W.cell? ⟨S, 9, none⟩ = some (.slice (T.A 9) (L 9) (T.cap 9)) := hcell 9 (by decide)
  have s10 : W.cell? ⟨S, 10, none⟩ = some (.slice (T.A 10) (L 10) (T.cap 10)) := hcell 10 (by decide)
  have s11 : W.cell? ⟨S, 11, none⟩ = some (.slice (T.A 11) (L 11) (T.cap 11)) := hcell 11 (by decide)
  have s12 : W.cell? ⟨S, 12, none⟩ = some (.slice (T.A 12) (L 12) (T.cap 12)) := hcell 12 (by decide)
  have s13 : W.cell? ⟨S, 13, none⟩ = some (.slice (T.A 13) (L 13) (T.cap 13)) := hcell 13 (by decide)
  have s14 : W.cell? ⟨S, 14, none⟩ = some (.slice (T.A 14) (L 14) (T.cap 14)) := hcell 14 (by decide)
  have s15 : W.cell? ⟨S, 15, none⟩ = some (.slice (T.A 15) (L 15) (T.cap 15)) := hcell 15 (by decide)
  have s16 : W.cell? ⟨S, 16, none⟩ = some (.slice (T.A 16) (L 16) (T.cap 16)) := hcell 16 (by decide)
  have fin : Hid (∀ (a : Act) (g : Nat → Value) (r : Bool), a.defers = [] → (∀ j, j < 154 → a.tmps[j]? = some (g j)) → g 4 = .bool r → (r = false → n ≤ 4096 ∧ L 1 ≤ 4096 ∧ L 5 ≤ 4096 ∧ L 16 ≤ 1048576 ∧ (∀ c, c < L 1 → cl c ≤ 1048576) ∧ ∀ l, l < L 16 → ll l ≤ 1048576) →
      bodyPost Try.prog Try.f6 (fun e w' => ∃ r : Bool, e = .returned (.bool r) ∧ Below w.heap.size w w' ∧ (r = false → n ≤ 4096 ∧ L 1 ≤ 4096 ∧ L 5 ≤ 4096 ∧ L 16 ≤ 1048576 ∧ (∀ c, c < L 1 → cl c ≤ 1048576) ∧ ∀ l, l < L 16 → ll l ≤ 1048576)) .ret a W) :=
    fun a g r h1 h2 h3 h4 => ret_f (N := 154) (s := 4) rfl h1 h2 (by omega) ⟨r, by rw [h3], HBel.out, h4⟩
  have HML := hide hR.ml
  have hmn := hR.mn
  clear hf hV0 hcell hR
  have u1 := HML.out 1
  have u5 := HML.out 5
  unfold maxLen at u1 u5 hmn
  generalize bodyPost Try.prog Try.f6 (fun e w' => ∃ r : Bool, e = .returned (.bool r) ∧ Below w.heap.size w w' ∧ (r = false → n ≤ 4096 ∧ L 1 ≤ 4096 ∧ L 5 ≤ 4096 ∧ L 16 ≤ 1048576 ∧ (∀ c, c < L 1 → cl c ≤ 1048576) ∧ ∀ l, l < L 16 → ll l ≤ 1048576)) = Q at fin ⊢
  clear HBel
  by_cases q1 : (4096 : Int) < (n : Int)
  · repeat (first
      | (refine wpList_put hD hV ?hd ?_; (case hd => decide); clear hD hV; (try clear a); intro a hD hV)
      | ((first | refine wpList_plain rfl (fun K hK => ?_) | refine wpList_step (fun K hK => ?_)); go_simp; refine hK _ _ ?_; clear hK K)
      | (refine wp_cond_true ?hc ?_; (case hc => simp [Act.eval, hV, hfs]; done))
      | (refine wp_cond_false ?hc ?_; (case hc => simp [Act.eval, hV, hfs]; done))
      | go_step)
    exact fin.out a _ true hD hV (by simp [hfs]) (fun h => by cases h)
  by_cases q2 : (4096 : Int) < (L 1 : Int)
  · repeat (first
      | (refine wpList_put hD hV ?hd ?_; (case hd => decide); clear hD hV; (try clear a); intro a hD hV)
      | ((first | refine wpList_plain rfl (fun K hK => ?_) | refine wpList_step (fun K hK => ?_)); go_simp; refine hK _ _ ?_; clear hK K)
      | (refine wp_cond_true ?hc ?_; (case hc => simp [Act.eval, hV, hfs]; done))
      | (refine wp_cond_false ?hc ?_; (case hc => simp [Act.eval, hV, hfs]; done))
      | go_step)
    exact fin.out a _ true hD hV (by simp [hfs]) (fun h => by cases h)
  by_cases q3 : (4096 : Int) < (L 5 : Int)
  · repeat (first
      | (refine wpList_put hD hV ?hd ?_; (case hd => decide); clear hD hV; (try clear a); intro a hD hV)
      | ((first | refine wpList_plain rfl (fun K hK => ?_) | refine wpList_step (fun K hK => ?_)); go_simp; refine hK _ _ ?_; clear hK K)
      | (refine wp_cond_true ?hc ?_; (case hc => simp [Act.eval, hV, hfs]; done))
      | (refine wp_cond_false ?hc ?_; (case hc => simp [Act.eval, hV, hfs]; done))
      | go_step)
    exact fin.out a _ true hD hV (by simp [hfs]) (fun h => by cases h)
  have z0 : (0 : Int) ≤ 0 := by omega
  repeat (first
    | (refine wpList_put hD hV ?hd ?_; (case hd => decide); clear hD hV; (try clear a); intro a hD hV)
    | ((first | refine wpList_plain rfl (fun K hK => ?_) | refine wpList_step (fun K hK => ?_)); go_simp; refine hK _ _ ?_; clear hK K)
    | (refine wp_cond_true ?hc ?_; (case hc => simp [Act.eval, hV, hfs]; done))
    | (refine wp_cond_false ?hc ?_; (case hc => simp [Act.eval, hV, hfs]; done))
    | go_step)
  refine (f17_to 0 (n : Nat) 40 W z0 (by omega) (by omega) (by omega)).mono ?_
  rintro e w1 ⟨t1, rfl, hw, hg1⟩
  obtain rfl : W = w1 := hw.symm
  have HG1 := hide hg1
  have z1 := hg1.1
  clear hw hg1
  dsimp only
  repeat (first
    | (refine wpList_put hD hV ?hd ?_; (case hd => decide); clear hD hV; (try clear a); intro a hD hV)
    | ((first | refine wpList_plain rfl (fun K hK => ?_) | refine wpList_step (fun K hK => ?_)); go_simp; refine hK _ _ ?_; clear hK K)
    | (refine wp_cond_true ?hc ?_; (case hc => simp [Act.eval, hV, hfs]; done))
    | (refine wp_cond_false ?hc ?_; (case hc => simp [Act.eval, hV, hfs]; done))
    | go_step)
  refine (f17_to t1 (L 1 : Nat) 24 W z1 (by omega) (by omega) (by omega)).mono ?_
  rintro e w1 ⟨t2, rfl, hw, hg2⟩
  obtain rfl : W = w1 := hw.symm
  have HG2 := hide hg2
  have z2 := hg2.1
  clear hw hg2
  dsimp only
  repeat (first
    | (refine wpList_put hD hV ?hd ?_; (case hd => decide); clear hD hV; (try clear a); intro a hD hV)
    | ((first | refine wpList_plain rfl (fun K hK => ?_) | refine wpList_step (fun K hK => ?_)); go_simp; refine hK _ _ ?_; clear hK K)
    | (refine wp_cond_true ?hc ?_; (case hc => simp [Act.eval, hV, hfs]; done))
    | (refine wp_cond_false ?hc ?_; (case hc => simp [Act.eval, hV, hfs]; done))
    | go_step)
  refine (f17_to t2 (L 2 : Nat) 8 W z2 (by omega) (by omega) (by omega)).mono ?_
  rintro e w1 ⟨t3, rfl, hw, hg3⟩
  obtain rfl : W = w1 := hw.symm
  have HG3 := hide hg3
  have z3 := hg3.1
  clear hw hg3
  dsimp only
  repeat (first
    | (refine wpList_put hD hV ?hd ?_; (case hd => decide); clear hD hV; (try clear a); intro a hD hV)
    | ((first | refine wpList_plain rfl (fun K hK => ?_) | refine wpList_step (fun K hK => ?_)); go_simp; refine hK _ _ ?_; clear hK K)
    | (refine wp_cond_true ?hc ?_; (case hc => simp [Act.eval, hV, hfs]; done))
    | (refine wp_cond_false ?hc ?_; (case hc => simp [Act.eval, hV, hfs]; done))
    | go_step)
  refine (f17_to t3 (L 4 : Nat) 1 W z3 (by omega) (by omega) (by omega)).mono ?_
  rintro e w1 ⟨t4, rfl, hw, hg4⟩
  obtain rfl : W = w1 := hw.symm
  have HG4 := hide hg4
  have z4 := hg4.1
  clear hw hg4
  dsimp only
  repeat (first
    | (refine wpList_put hD hV ?hd ?_; (case hd => decide); clear hD hV; (try clear a); intro a hD hV)
    | ((first | refine wpList_plain rfl (fun K hK => ?_) | refine wpList_step (fun K hK => ?_)); go_simp; refine hK _ _ ?_; clear hK K)
    | (refine wp_cond_true ?hc ?_; (case hc => simp [Act.eval, hV, hfs]; done))
    | (refine wp_cond_false ?hc ?_; (case hc => simp [Act.eval, hV, hfs]; done))
    | go_step)
  refine (f17_to t4 (L 5 : Nat) 4 W z4 (by omega) (by omega) (by omega)).mono ?_
  rintro e w1 ⟨t5, rfl, hw, hg5⟩
  obtain rfl : W = w1 := hw.symm
  have HG5 := hide hg5
  have z5 := hg5.1
  clear hw hg5
  dsimp only
  repeat (first
    | (refine wpList_put hD hV ?hd ?_; (case hd => decide); clear hD hV; (try clear a); intro a hD hV)
    | ((first | refine wpList_plain rfl (fun K hK => ?_) | refine wpList_step (fun K hK => ?_)); go_simp; refine hK _ _ ?_; clear hK K)
    | (refine wp_cond_true ?hc ?_; (case hc => simp [Act.eval, hV, hfs]; done))
    | (refine wp_cond_false ?hc ?_; (case hc => simp [Act.eval, hV, hfs]; done))
    | go_step)
  refine (f17_to t5 (L 6 : Nat) 4 W z5 (by omega) (by omega) (by omega)).mono ?_
  rintro e w1 ⟨t6, rfl, hw, hg6⟩
  obtain rfl : W = w1 := hw.symm
  have HG6 := hide hg6
  have z6 := hg6.1
  clear hw hg6
  dsimp only
  repeat (first
    | (refine wpList_put hD hV ?hd ?_; (case hd => decide); clear hD hV; (try clear a); intro a hD hV)
    | ((first | refine wpList_plain rfl (fun K hK => ?_) | refine wpList_step (fun K hK => ?_)); go_simp; refine hK _ _ ?_; clear hK K)
    | (refine wp_cond_true ?hc ?_; (case hc => simp [Act.eval, hV, hfs]; done))
    | (refine wp_cond_false ?hc ?_; (case hc => simp [Act.eval, hV, hfs]; done))
    | go_step)
  refine (f17_to t6 (L 7 : Nat) 1 W z6 (by omega) (by omega) (by omega)).mono ?_
  rintro e w1 ⟨t7, rfl, hw, hg7⟩
  obtain rfl : W = w1 := hw.symm
  have HG7 := hide hg7
  have z7 := hg7.1
  clear hw hg7
  dsimp only
  repeat (first
    | (refine wpList_put hD hV ?hd ?_; (case hd => decide); clear hD hV; (try clear a); intro a hD hV)
    | ((first | refine wpList_plain rfl (fun K hK => ?_) | refine wpList_step (fun K hK => ?_)); go_simp; refine hK _ _ ?_; clear hK K)
    | (refine wp_cond_true ?hc ?_; (case hc => simp [Act.eval, hV, hfs]; done))
    | (refine wp_cond_false ?hc ?_; (case hc => simp [Act.eval, hV, hfs]; done))
    | go_step)
  refine (f17_to t7 (L 8 : Nat) 4 W z7 (by omega) (by omega) (by omega)).mono ?_
  rintro e w1 ⟨t8, rfl, hw, hg8⟩
  obtain rfl : W = w1 := hw.symm
  have HG8 := hide hg8
  have z8 := hg8.1
  clear hw hg8
  dsimp only
  repeat (first
    | (refine wpList_put hD hV ?hd ?_; (case hd => decide); clear hD hV; (try clear a); intro a hD hV)
    | ((first | refine wpList_plain rfl (fun K hK => ?_) | refine wpList_step (fun K hK => ?_)); go_simp; refine hK _ _ ?_; clear hK K)
    | (refine wp_cond_true ?hc ?_; (case hc => simp [Act.eval, hV, hfs]; done))
    | (refine wp_cond_false ?hc ?_; (case hc => simp [Act.eval, hV, hfs]; done))
    | go_step)
  refine (f17_to t8 (L 9 : Nat) 8 W z8 (by omega) (by omega) (by omega)).mono ?_
  rintro e w1 ⟨t9, rfl, hw, hg9⟩
  obtain rfl : W = w1 := hw.symm
  have HG9 := hide hg9
  have z9 := hg9.1
  clear hw hg9
  dsimp only
  repeat (first
    | (refine wpList_put hD hV ?hd ?_; (case hd => decide); clear hD hV; (try clear a); intro a hD hV)
    | ((first | refine wpList_plain rfl (fun K hK => ?_) | refine wpList_step (fun K hK => ?_)); go_simp; refine hK _ _ ?_; clear hK K)
    | (refine wp_cond_true ?hc ?_; (case hc => simp [Act.eval, hV, hfs]; done))
    | (refine wp_cond_false ?hc ?_; (case hc => simp [Act.eval, hV, hfs]; done))
    | go_step)
  refine (f17_to t9 (L 10 : Nat) 1 W z9 (by omega) (by omega) (by omega)).mono ?_
  rintro e w1 ⟨t10, rfl, hw, hg10⟩
  obtain rfl : W = w1 := hw.symm
  have HG10 := hide hg10
  have z10 := hg10.1
  clear hw hg10
  dsimp only
  repeat (first
    | (refine wpList_put hD hV ?hd ?_; (case hd => decide); clear hD hV; (try clear a); intro a hD hV)
    | ((first | refine wpList_plain rfl (fun K hK => ?_) | refine wpList_step (fun K hK => ?_)); go_simp; refine hK _ _ ?_; clear hK K)
    | (refine wp_cond_true ?hc ?_; (case hc => simp [Act.eval, hV, hfs]; done))
    | (refine wp_cond_false ?hc ?_; (case hc => simp [Act.eval, hV, hfs]; done))
    | go_step)
  refine (f17_to t10 (L 11 : Nat) 4 W z10 (by omega) (by omega) (by omega)).mono ?_
  rintro e w1 ⟨t11, rfl, hw, hg11⟩
  obtain rfl : W = w1 := hw.symm
  have HG11 := hide hg11
  have z11 := hg11.1
  clear hw hg11
  dsimp only
  repeat (first
    | (refine wpList_put hD hV ?hd ?_; (case hd => decide); clear hD hV; (try clear a); intro a hD hV)
    | ((first | refine wpList_plain rfl (fun K hK => ?_) | refine wpList_step (fun K hK => ?_)); go_simp; refine hK _ _ ?_; clear hK K)
    | (refine wp_cond_true ?hc ?_; (case hc => simp [Act.eval, hV, hfs]; done))
    | (refine wp_cond_false ?hc ?_; (case hc => simp [Act.eval, hV, hfs]; done))
    | go_step)
  refine (f17_to t11 (L 12 : Nat) 4 W z11 (by omega) (by omega) (by omega)).mono ?_
  rintro e w1 ⟨t12, rfl, hw, hg12⟩
  obtain rfl : W = w1 := hw.symm
  have HG12 := hide hg12
  have z12 := hg12.1
  clear hw hg12
  dsimp only
  repeat (first
    | (refine wpList_put hD hV ?hd ?_; (case hd => decide); clear hD hV; (try clear a); intro a hD hV)
    | ((first | refine wpList_plain rfl (fun K hK => ?_) | refine wpList_step (fun K hK => ?_)); go_simp; refine hK _ _ ?_; clear hK K)
    | (refine wp_cond_true ?hc ?_; (case hc => simp [Act.eval, hV, hfs]; done))
    | (refine wp_cond_false ?hc ?_; (case hc => simp [Act.eval, hV, hfs]; done))
    | go_step)
  refine (f17_to t12 (L 13 : Nat) 4 W z12 (by omega) (by omega) (by omega)).mono ?_
  rintro e w1 ⟨t13, rfl, hw, hg13⟩
  obtain rfl : W = w1 := hw.symm
  have HG13 := hide hg13
  have z13 := hg13.1
  clear hw hg13
  dsimp only
  repeat (first
    | (refine wpList_put hD hV ?hd ?_; (case hd => decide); clear hD hV; (try clear a); intro a hD hV)
    | ((first | refine wpList_plain rfl (fun K hK => ?_) | refine wpList_step (fun K hK => ?_)); go_simp; refine hK _ _ ?_; clear hK K)
    | (refine wp_cond_true ?hc ?_; (case hc => simp [Act.eval, hV, hfs]; done))
    | (refine wp_cond_false ?hc ?_; (case hc => simp [Act.eval, hV, hfs]; done))
    | go_step)
  refine (f17_to t13 (L 14 : Nat) 4 W z13 (by omega) (by omega) (by omega)).mono ?_
  rintro e w1 ⟨t14, rfl, hw, hg14⟩
  obtain rfl : W = w1 := hw.symm
  have HG14 := hide hg14
  have z14 := hg14.1
  clear hw hg14
  dsimp only
  repeat (first
    | (refine wpList_put hD hV ?hd ?_; (case hd => decide); clear hD hV; (try clear a); intro a hD hV)
    | ((first | refine wpList_plain rfl (fun K hK => ?_) | refine wpList_step (fun K hK => ?_)); go_simp; refine hK _ _ ?_; clear hK K)
    | (refine wp_cond_true ?hc ?_; (case hc => simp [Act.eval, hV, hfs]; done))
    | (refine wp_cond_false ?hc ?_; (case hc => simp [Act.eval, hV, hfs]; done))
    | go_step)
  refine (f17_to t14 (L 15 : Nat) 4 W z14 (by omega) (by omega) (by omega)).mono ?_
  rintro e w1 ⟨t15, rfl, hw, hg15⟩
  obtain rfl : W = w1 := hw.symm
  have HG15 := hide hg15
  have z15 := hg15.1
  clear hw hg15
  dsimp only
  repeat (first
    | (refine wpList_put hD hV ?hd ?_; (case hd => decide); clear hD hV; (try clear a); intro a hD hV)
    | ((first | refine wpList_plain rfl (fun K hK => ?_) | refine wpList_step (fun K hK => ?_)); go_simp; refine hK _ _ ?_; clear hK K)
    | (refine wp_cond_true ?hc ?_; (case hc => simp [Act.eval, hV, hfs]; done))
    | (refine wp_cond_false ?hc ?_; (case hc => simp [Act.eval, hV, hfs]; done))
    | go_step)
  refine (f17_to t15 (L 16 : Nat) 24 W z15 (by omega) (by omega) (by omega)).mono ?_
  rintro e w1 ⟨t16, rfl, hw, hg16⟩
  obtain rfl : W = w1 := hw.symm
  have HG16 := hide hg16
  have z16 := hg16.1
  clear hw hg16
  dsimp only
  by_cases q4 : (1048576 : Int) < t16
  · repeat (first
      | (refine wpList_put hD hV ?hd ?_; (case hd => decide); clear hD hV; (try clear a); intro a hD hV)
      | ((first | refine wpList_plain rfl (fun K hK => ?_) | refine wpList_step (fun K hK => ?_)); go_simp; refine hK _ _ ?_; clear hK K)
      | (refine wp_cond_true ?hc ?_; (case hc => simp [Act.eval, hV, hfs]; done))
      | (refine wp_cond_false ?hc ?_; (case hc => simp [Act.eval, hV, hfs]; done))
      | go_step)
    exact fin.out a _ true hD hV (by simp [hfs]) (fun h => by cases h)
  have hl16 : L 16 ≤ 1048576 := by have := (HG16.out).2.2 (by omega); omega
  repeat (first
    | (refine wpList_put hD hV ?hd ?_; (case hd => decide); clear hD hV; (try clear a); intro a hD hV)
    | ((first | refine wpList_plain rfl (fun K hK => ?_) | refine wpList_step (fun K hK => ?_)); go_simp; refine hK _ _ ?_; clear hK K)
    | (refine wp_cond_true ?hc ?_; (case hc => simp [Act.eval, hV, hfs]; done))
    | (refine wp_cond_false ?hc ?_; (case hc => simp [Act.eval, hV, hfs]; done))
    | go_step)
  refine wp_loop_f (N := 154) (fun m f w' => ∃ (k : Nat) (t : Int), k ≤ n ∧ m = n - k ∧ w' = W ∧ 0 ≤ t ∧ f 5 = .int .i64 t ∧ f 6 = .int .i64 (k : Nat) ∧ f 0 = .slice T.oA n T.oc ∧ f 3 = .pointer (some ⟨S, 0, none⟩)) n hD hV
    ⟨0, t16, by omega, by omega, rfl, z16, by simp [hfs], by simp [hfs], by simp [hfs, h0], by simp [hfs]⟩ ?_
  clear h0 h1 hD hV a f
  intro m f w' a hD hV ⟨k, t, hk, hm', hw, ht, h5, h6, h0, h3⟩ K hK
  obtain rfl : W = w' := hw.symm
  have HK := hide hK
  clear hK hw
  by_cases hkn : k < n
  · have on := HR.out.on (by omega)
    obtain ⟨x, o4, hxl⟩ := HR.out.o4 k hkn
    have e4 : IntKind.i64.wrap ((k : Int) + 1) = (k : Int) + 1 := w64' (by unfold i64; omega)
    repeat (first
      | (refine wpList_put hD hV ?hd ?_; (case hd => decide); clear hD hV; (try clear a); intro a hD hV)
      | ((first | refine wpList_plain rfl (fun K hK => ?_) | refine wpList_step (fun K hK => ?_)); go_simp; refine hK _ _ ?_; clear hK K)
      | (refine wp_cond_true ?hc ?_; (case hc => simp [Act.eval, hV, hfs]; done))
      | (refine wp_cond_false ?hc ?_; (case hc => simp [Act.eval, hV, hfs]; done))
      | go_step)
    refine (f17_to t (x.size : Nat) 1 W ht (by omega) (by omega) (by omega)).mono ?_
    rintro e w1 ⟨t2, rfl, hw, hg⟩
    obtain rfl : W = w1 := hw.symm
    have HG := hide hg
    have z := hg.1
    clear hw hg
    dsimp only
    by_cases q5 : (1048576 : Int) < t2
    · repeat (first
        | (refine wpList_put hD hV ?hd ?_; (case hd => decide); clear hD hV; (try clear a); intro a hD hV)
        | ((first | refine wpList_plain rfl (fun K hK => ?_) | refine wpList_step (fun K hK => ?_)); go_simp; refine hK _ _ ?_; clear hK K)
        | (refine wp_cond_true ?hc ?_; (case hc => simp [Act.eval, hV, hfs]; done))
        | (refine wp_cond_false ?hc ?_; (case hc => simp [Act.eval, hV, hfs]; done))
        | go_step)
      exact fin.out a _ true hD hV (by simp [hfs]) (fun h => by cases h)
    · repeat (first
        | (refine wpList_put hD hV ?hd ?_; (case hd => decide); clear hD hV; (try clear a); intro a hD hV)
        | ((first | refine wpList_plain rfl (fun K hK => ?_) | refine wpList_step (fun K hK => ?_)); go_simp; refine hK _ _ ?_; clear hK K)
        | (refine wp_cond_true ?hc ?_; (case hc => simp [Act.eval, hV, hfs]; done))
        | (refine wp_cond_false ?hc ?_; (case hc => simp [Act.eval, hV, hfs]; done))
        | go_step)
      exact HK.out a _ _ (n - (k + 1)) hD hV (by omega) ⟨k + 1, t2, by omega, rfl, rfl, z, by simp [hfs], by simp [hfs], by simp [hfs, h0], by simp [hfs, h3]⟩
  repeat (first
    | (refine wpList_put hD hV ?hd ?_; (case hd => decide); clear hD hV; (try clear a); intro a hD hV)
    | ((first | refine wpList_plain rfl (fun K hK => ?_) | refine wpList_step (fun K hK => ?_)); go_simp; refine hK _ _ ?_; clear hK K)
    | (refine wp_cond_true ?hc ?_; (case hc => simp [Act.eval, hV, hfs]; done))
    | (refine wp_cond_false ?hc ?_; (case hc => simp [Act.eval, hV, hfs]; done))
    | go_step)
  refine wp_loop_f (N := 154) (fun m f w' => ∃ (k : Nat) (t : Int), k ≤ L 1 ∧ m = L 1 - k ∧ w' = W ∧ 0 ≤ t ∧ f 5 = .int .i64 t ∧ f 7 = .int .i64 (k : Nat) ∧ f 3 = .pointer (some ⟨S, 0, none⟩) ∧ ∀ c, c < k → cl c ≤ 1048576) (L 1) hD hV
    ⟨0, t, by omega, by omega, rfl, ht, by simp [hfs, h5], by simp [hfs], by simp [hfs, h3], fun _ h => by omega⟩ ?_
  clear h0 h3 h5 h6 hD hV ht t a f
  intro m2 f w' a hD hV ⟨k2, t, hk2, hm2, hw, ht, h5, h7, h3, hI⟩ K2 hK2
  obtain rfl : W = w' := hw.symm
  have HK2 := hide hK2
  have HI := hide hI
  clear hK2 hw hI
  by_cases hkn2 : k2 < L 1
  · have n1 := HR.out.n1 (by omega)
    have d1 := HR.out.d1 k2 hkn2
    have hmc := HR.out.mc k2 hkn2
    have e4 : IntKind.i64.wrap ((k2 : Int) + 1) = (k2 : Int) + 1 := w64' (by unfold i64; omega)
    repeat (first
      | (refine wpList_put hD hV ?hd ?_; (case hd => decide); clear hD hV; (try clear a); intro a hD hV)
      | ((first | refine wpList_plain rfl (fun K hK => ?_) | refine wpList_step (fun K hK => ?_)); go_simp; refine hK _ _ ?_; clear hK K)
      | (refine wp_cond_true ?hc ?_; (case hc => simp [Act.eval, hV, hfs]; done))
      | (refine wp_cond_false ?hc ?_; (case hc => simp [Act.eval, hV, hfs]; done))
      | go_step)
    refine (f17_to t (cl k2 : Nat) 4 W ht (by omega) (by omega) (by omega)).mono ?_
    rintro e w1 ⟨t2, rfl, hw, hg⟩
    obtain rfl : W = w1 := hw.symm
    have HG := hide hg
    have z := hg.1
    clear hw hg
    dsimp only
    by_cases q5 : (1048576 : Int) < t2
    · repeat (first
        | (refine wpList_put hD hV ?hd ?_; (case hd => decide); clear hD hV; (try clear a); intro a hD hV)
        | ((first | refine wpList_plain rfl (fun K hK => ?_) | refine wpList_step (fun K hK => ?_)); go_simp; refine hK _ _ ?_; clear hK K)
        | (refine wp_cond_true ?hc ?_; (case hc => simp [Act.eval, hV, hfs]; done))
        | (refine wp_cond_false ?hc ?_; (case hc => simp [Act.eval, hV, hfs]; done))
        | go_step)
      exact fin.out a _ true hD hV (by simp [hfs]) (fun h => by cases h)
    · have hcl : cl k2 ≤ 1048576 := by have := (HG.out).2.2 (by omega); omega
      repeat (first
        | (refine wpList_put hD hV ?hd ?_; (case hd => decide); clear hD hV; (try clear a); intro a hD hV)
        | ((first | refine wpList_plain rfl (fun K hK => ?_) | refine wpList_step (fun K hK => ?_)); go_simp; refine hK _ _ ?_; clear hK K)
        | (refine wp_cond_true ?hc ?_; (case hc => simp [Act.eval, hV, hfs]; done))
        | (refine wp_cond_false ?hc ?_; (case hc => simp [Act.eval, hV, hfs]; done))
        | go_step)
      refine HK2.out a _ _ (L 1 - (k2 + 1)) hD hV (by omega) ⟨k2 + 1, t2, by omega, rfl, rfl, z, by simp [hfs], by simp [hfs], by simp [hfs, h3], fun c hc => ?_⟩
      by_cases e : c = k2
      · subst e; exact hcl
      · exact HI.out c (by omega)
  repeat (first
    | (refine wpList_put hD hV ?hd ?_; (case hd => decide); clear hD hV; (try clear a); intro a hD hV)
    | ((first | refine wpList_plain rfl (fun K hK => ?_) | refine wpList_step (fun K hK => ?_)); go_simp; refine hK _ _ ?_; clear hK K)
    | (refine wp_cond_true ?hc ?_; (case hc => simp [Act.eval, hV, hfs]; done))
    | (refine wp_cond_false ?hc ?_; (case hc => simp [Act.eval, hV, hfs]; done))
    | go_step)
  have HI1 : Hid (∀ c, c < L 1 → cl c ≤ 1048576) := fun c hc => HI.out c (by omega)
  refine wp_loop_f (N := 154) (fun m f w' => ∃ (k : Nat) (t : Int), k ≤ L 16 ∧ m = L 16 - k ∧ w' = W ∧ 0 ≤ t ∧ f 5 = .int .i64 t ∧ f 8 = .int .i64 (k : Nat) ∧ f 3 = .pointer (some ⟨S, 0, none⟩) ∧ ∀ c, c < k → ll c ≤ 1048576) (L 16) hD hV
    ⟨0, t, by omega, by omega, rfl, ht, by simp [hfs, h5], by simp [hfs], by simp [hfs, h3], fun _ h => by omega⟩ ?_
  clear h3 h5 h7 hD hV ht t a f HI
  intro m3 f w' a hD hV ⟨k3, t, hk3, hm3, hw, ht, h5, h8, h3, hI⟩ K3 hK3
  obtain rfl : W = w' := hw.symm
  have HK3 := hide hK3
  have HI := hide hI
  clear hK3 hw hI
  by_cases hkn3 : k3 < L 16
  · have n16 := HR.out.n16 (by omega)
    have d16 := HR.out.d16 k3 hkn3
    have hmc := HR.out.mll k3 hkn3
    have e4 : IntKind.i64.wrap ((k3 : Int) + 1) = (k3 : Int) + 1 := w64' (by unfold i64; omega)
    repeat (first
      | (refine wpList_put hD hV ?hd ?_; (case hd => decide); clear hD hV; (try clear a); intro a hD hV)
      | ((first | refine wpList_plain rfl (fun K hK => ?_) | refine wpList_step (fun K hK => ?_)); go_simp; refine hK _ _ ?_; clear hK K)
      | (refine wp_cond_true ?hc ?_; (case hc => simp [Act.eval, hV, hfs]; done))
      | (refine wp_cond_false ?hc ?_; (case hc => simp [Act.eval, hV, hfs]; done))
      | go_step)
    refine (f17_to t (ll k3 : Nat) 8 W ht (by omega) (by omega) (by omega)).mono ?_
    rintro e w1 ⟨t2, rfl, hw, hg⟩
    obtain rfl : W = w1 := hw.symm
    have HG := hide hg
    have z := hg.1
    clear hw hg
    dsimp only
    by_cases q5 : (1048576 : Int) < t2
    · repeat (first
        | (refine wpList_put hD hV ?hd ?_; (case hd => decide); clear hD hV; (try clear a); intro a hD hV)
        | ((first | refine wpList_plain rfl (fun K hK => ?_) | refine wpList_step (fun K hK => ?_)); go_simp; refine hK _ _ ?_; clear hK K)
        | (refine wp_cond_true ?hc ?_; (case hc => simp [Act.eval, hV, hfs]; done))
        | (refine wp_cond_false ?hc ?_; (case hc => simp [Act.eval, hV, hfs]; done))
        | go_step)
      exact fin.out a _ true hD hV (by simp [hfs]) (fun h => by cases h)
    · have hcl : ll k3 ≤ 1048576 := by have := (HG.out).2.2 (by omega); omega
      repeat (first
        | (refine wpList_put hD hV ?hd ?_; (case hd => decide); clear hD hV; (try clear a); intro a hD hV)
        | ((first | refine wpList_plain rfl (fun K hK => ?_) | refine wpList_step (fun K hK => ?_)); go_simp; refine hK _ _ ?_; clear hK K)
        | (refine wp_cond_true ?hc ?_; (case hc => simp [Act.eval, hV, hfs]; done))
        | (refine wp_cond_false ?hc ?_; (case hc => simp [Act.eval, hV, hfs]; done))
        | go_step)
      refine HK3.out a _ _ (L 16 - (k3 + 1)) hD hV (by omega) ⟨k3 + 1, t2, by omega, rfl, rfl, z, by simp [hfs], by simp [hfs], by simp [hfs, h3], fun c hc => ?_⟩
      by_cases e : c = k3
      · subst e; exact hcl
      · exact HI.out c (by omega)
  repeat (first
    | (refine wpList_put hD hV ?hd ?_; (case hd => decide); clear hD hV; (try clear a); intro a hD hV)
    | ((first | refine wpList_plain rfl (fun K hK => ?_) | refine wpList_step (fun K hK => ?_)); go_simp; refine hK _ _ ?_; clear hK K)
    | (refine wp_cond_true ?hc ?_; (case hc => simp [Act.eval, hV, hfs]; done))
    | (refine wp_cond_false ?hc ?_; (case hc => simp [Act.eval, hV, hfs]; done))
    | go_step)
  exact fin.out a _ false hD hV (by simp [hfs]) (fun _ => ⟨by omega, by omega, by omega, hl16, HI1.out, fun l hl => HI.out l (by omega)⟩)
end Go.Proofs.Qxb6616080a
