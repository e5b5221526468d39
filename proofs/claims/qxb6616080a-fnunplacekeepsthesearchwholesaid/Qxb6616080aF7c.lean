import Derived.Test.Qxb6616080aF7b
namespace Go.Proofs.Qxb6616080a
open Go.RowKit
set_option linter.unusedVariables false
set_option linter.unusedSimpArgs false
set_option maxRecDepth 100000

/-- The places before (c, k) have been entered. -/
structure CpTo (E : Env) (cof plc : Nat → Int) (c k : Nat) : Prop where
  at_ : ∀ c' k', c' < E.nc → k' < E.cl c' → (c' < c ∨ c' = c ∧ k' < k) → (0 ≤ E.ch c' k' ∧ E.ch c' k' < E.n) ∧ cof (E.ch c' k').toNat = (c' : Int) ∧ plc (E.ch c' k').toNat = (k' : Int)
  of_ : ∀ i, i < E.n → 0 ≤ cof i → ∃ c' k' : Nat, c' < E.nc ∧ k' < E.cl c' ∧ (c' < c ∨ c' = c ∧ k' < k) ∧ E.ch c' k' = (i : Int) ∧ cof i = (c' : Int) ∧ plc i = (k' : Int)

theorem CpTo.step {E : Env} {cof plc : Nat → Int} {c k i : Nat} (h : CpTo E cof plc c k) (hc : c < E.nc) (hk : k < E.cl c) (hi : i < E.n) (he : E.ch c k = (i : Int)) (hn : cof i < 0) : CpTo E (upd cof i c) (upd plc i k) c (k + 1) := by
  refine ⟨fun c' k' h1 h2 h3 => ?_, fun j hj h1 => ?_⟩
  · by_cases e : c' = c ∧ k' = k
    · obtain ⟨rfl, rfl⟩ := e
      rw [he, Int.toNat_natCast, upd_self, upd_self]
      exact ⟨⟨by omega, by omega⟩, rfl, rfl⟩
    · have := h.at_ c' k' h1 h2 (by omega)
      have hne : (E.ch c' k').toNat ≠ i := by
        intro e2
        rw [e2] at this
        omega
      rw [upd_ne _ _ hne, upd_ne _ _ hne]
      exact this
  · by_cases e : j = i
    · subst e
      rw [upd_self, upd_self]
      exact ⟨c, k, hc, hk, by omega, he, rfl, rfl⟩
    · rw [upd_ne _ _ e] at h1 ⊢
      rw [upd_ne _ _ e]
      obtain ⟨c', k', a1, a2, a3, a4⟩ := h.of_ j hj h1
      exact ⟨c', k', a1, a2, by omega, a4⟩
theorem CpTo.next {E : Env} {cof plc : Nat → Int} {c : Nat} (h : CpTo E cof plc c (E.cl c)) : CpTo E cof plc (c + 1) 0 := by
  refine ⟨fun c' k' h1 h2 h3 => h.at_ c' k' h1 h2 ?_, fun j hj h1 => ?_⟩
  · rcases Nat.lt_or_ge c' c with h | h
    · exact .inl h
    · have : c' = c := by omega
      subst this
      exact .inr ⟨rfl, h2⟩
  · obtain ⟨c', k', a1, a2, a3, a4⟩ := h.of_ j hj h1
    exact ⟨c', k', a1, a2, by omega, a4⟩

/-- All have been entered. -/
structure Cp (E : Env) (D : Dyn) (cof plc : Nat → Int) : Prop where
  nx : ∀ c, c < E.nc → 0 ≤ D.next c ∧ D.next c ≤ E.cl c
  all : CpTo E cof plc E.nc 0
theorem Cp.chr {E : Env} {D : Dyn} {cof plc : Nat → Int} (h : Cp E D cof plc) {c k : Nat} (hc : c < E.nc) (hk : k < E.cl c) : (0 ≤ E.ch c k ∧ E.ch c k < E.n) ∧ cof (E.ch c k).toNat = (c : Int) ∧ plc (E.ch c k).toNat = (k : Int) := h.all.at_ c k hc hk (.inl hc)
theorem Cp.has {E : Env} {D : Dyn} {cof plc : Nat → Int} (h : Cp E D cof plc) {i : Nat} (hi : i < E.n) : E.has i = true ↔ 0 ≤ cof i := by
  rw [Env.has_iff]
  constructor
  · rintro ⟨c, k, hc, hk, he⟩
    have := (h.chr hc hk).2.1
    rw [he, Int.toNat_natCast] at this
    omega
  · intro h1
    obtain ⟨c, k, a1, a2, _, a4, _⟩ := h.all.of_ i hi h1
    exact ⟨c, k, a1, a2, a4⟩

theorem tot_le {n : Nat} {g : Nat → Int} {M : Int} (h : ∀ j, j < n → 0 ≤ g j ∧ g j ≤ M) : 0 ≤ tot n g ∧ tot n g ≤ n * M := by
  induction n with
  | zero => simp [tot]
  | succ n ih =>
    have h1 := ih (fun j hj => h j (by omega))
    have h2 := h n (by omega)
    simp only [tot]
    have e : ((n + 1 : Nat) : Int) * M = n * M + M := by rw [Int.natCast_add, Int.add_mul]; simp
    omega

section
variable {Q : Exit → Act → World → Prop} {W : World} {T : Ad} {E : Env} {D : Dyn} {B S : Nat} {mix : Nat → Nat}

theorem st9 {a : Act} {w : World} {f : Nat → Value} {g1 g2 : Nat} (hb : Bs T E S f) (h9 : f 9 = .slice (some ⟨g1, 0, none⟩) E.n E.n) (h10 : f 10 = .slice (some ⟨g2, 0, none⟩) E.n E.n)
    (hD : a.defers = []) (hV : ∀ j, j < 864 → a.tmps[j]? = some (f j))
    (hNext : ∀ (a : Act) (f : Nat → Value), a.defers = [] → (∀ j, j < 864 → a.tmps[j]? = some (f j)) → Bs T E S f → f 9 = .slice (some ⟨g1, 0, none⟩) E.n E.n → f 10 = .slice (some ⟨g2, 0, none⟩) E.n E.n → f 12 = .int .i64 0 → Q .normal a w) :
    Code.wp Try.prog (sub [1, 1, 1, 1, 1, 1, 1, 1, 1, 0] (Try.f7.body.getD .skip)) Q a w := by
  have hfs := fset_at
  obtain ⟨h0, h3, h5, h6, h7⟩ := hb
  have HN := hide hNext
  clear hNext
  conv => arg 2; whnf
  repeat (first
    | (refine wpList_put hD hV ?hd ?_; (case hd => decide); clear hD hV; (try clear a); intro a hD hV)
    | ((first | refine wpList_plain rfl (fun K hK => ?_) | refine wpList_step (fun K hK => ?_)); go_simp; refine hK _ _ ?_; clear hK K)
    | (refine wp_cond_true ?hc ?_; (case hc => simp [Act.eval, hV, hfs]; done))
    | (refine wp_cond_false ?hc ?_; (case hc => simp [Act.eval, hV, hfs]; done))
    | go_step)
  exact HN.out a _ hD hV ⟨by simp [hfs, h0], by simp [hfs, h3], by simp [hfs, h5], by simp [hfs, h6], by simp [hfs, h7]⟩ (by simp [hfs, h9]) (by simp [hfs, h10]) (by simp [hfs])

set_option maxHeartbeats 1000000 in
/-- The chains: how far each is placed; each operation once. -/
theorem st10 {a : Act} {w : World} {f : Nat → Value} {g1 g2 : Nat} (hR : Rd W B T E D) (hS : Sb W S T E D) (hSB : S < B) (hW : Below B W w) (hB : B ≤ w.heap.size)
    (hb : Bs T E S f) (h9 : f 9 = .slice (some ⟨g1, 0, none⟩) E.n E.n) (h10 : f 10 = .slice (some ⟨g2, 0, none⟩) E.n E.n) (h12 : f 12 = .int .i64 0) (hne : g1 ≠ g2)
    (ho : Own B w g1 E.n 3 (fun _ => .int .i64 (-1))) (hp : Own B w g2 E.n 3 (fun _ => .int .i64 0))
    (hD : a.defers = []) (hV : ∀ j, j < 864 → a.tmps[j]? = some (f j))
    (hNext : ∀ (a : Act) (f : Nat → Value) (w' : World) (cof plc : Nat → Int), a.defers = [] → (∀ j, j < 864 → a.tmps[j]? = some (f j)) → Bs T E S f → f 9 = .slice (some ⟨g1, 0, none⟩) E.n E.n → f 10 = .slice (some ⟨g2, 0, none⟩) E.n E.n →
      f 12 = .int .i64 (tot E.nc (fun c => (E.cl c : Int) - D.next c)) → Below B W w' → B ≤ w'.heap.size → Own B w' g1 E.n 3 (fun j => .int .i64 (cof j)) → Own B w' g2 E.n 3 (fun j => .int .i64 (plc j)) → Cp E D cof plc → Q .normal a w')
    (hRet : ∀ (a : Act) (f : Nat → Value) (w' : World), a.defers = [] → (∀ j, j < 864 → a.tmps[j]? = some (f j)) → f 4 = .bool false → Below B W w' → ¬ Holds E D mix → Q .ret a w') :
    Code.wp Try.prog (sub [1, 1, 1, 1, 1, 1, 1, 1, 1, 1, 0] (Try.f7.body.getD .skip)) Q a w := by
  have hfs := fset_at
  obtain ⟨h0, h3, h5, h6, h7⟩ := hb
  have HN := hide hNext
  have HR := hide hRet
  have HO := hide ho
  have HP := hide hp
  have HRd := hide hR
  have HS := hide hS
  have HW := hide hW
  have m1 := hR.m_n
  have m2 := hR.m_c
  clear hNext hRet ho hp hR hS hW
  conv => arg 2; whnf
  repeat (first
    | (refine wpList_put hD hV ?hd ?_; (case hd => decide); clear hD hV; (try clear a); intro a hD hV)
    | ((first | refine wpList_plain rfl (fun K hK => ?_) | refine wpList_step (fun K hK => ?_)); go_simp; refine hK _ _ ?_; clear hK K)
    | (refine wp_cond_true ?hc ?_; (case hc => simp [Act.eval, hV, hfs]; done))
    | (refine wp_cond_false ?hc ?_; (case hc => simp [Act.eval, hV, hfs]; done))
    | go_step)
  refine wp_loop_f (N := 864) (fun m f w' => ∃ (c : Nat) (cof plc : Nat → Int), c ≤ E.nc ∧ m = E.nc - c ∧ f 13 = .int .i64 (c : Nat) ∧ Bs T E S f ∧ f 9 = .slice (some ⟨g1, 0, none⟩) E.n E.n ∧ f 10 = .slice (some ⟨g2, 0, none⟩) E.n E.n ∧
    f 12 = .int .i64 (tot c (fun c => (E.cl c : Int) - D.next c)) ∧ Below B W w' ∧ B ≤ w'.heap.size ∧ Own B w' g1 E.n 3 (fun j => .int .i64 (cof j)) ∧ Own B w' g2 E.n 3 (fun j => .int .i64 (plc j)) ∧
    (∀ c', c' < c → 0 ≤ D.next c' ∧ D.next c' ≤ E.cl c') ∧ CpTo E cof plc c 0) E.nc hD hV
    ⟨0, fun _ => -1, fun _ => 0, by omega, by omega, by simp [hfs], ⟨by simp [hfs, h0], by simp [hfs, h3], by simp [hfs, h5], by simp [hfs, h6], by simp [hfs, h7]⟩, by simp [hfs, h9], by simp [hfs, h10], by simp [hfs, h12, tot], HW.out, hB, HO.out, HP.out, fun _ h => by omega, ⟨fun _ _ _ _ h => by omega, fun i _ h => by simp at h⟩⟩ ?_
  clear h0 h3 h5 h6 h7 h9 h10 h12 hD hV a f HO HP HW
  intro m f w' a hD hV ⟨c, cof, plc, hc, hm', h13, hb, h9, h10, h12, hbel, hB', ho, hp, hnx, hcp⟩ K hK
  obtain ⟨h0, h3, h5, h6, h7⟩ := hb
  have HO := hide ho
  have HP := hide hp
  have HB := hide hbel
  have HCP := hide hcp
  have HNX := hide hnx
  have HK := hide hK
  clear ho hp hbel hcp hnx hK
  obtain ⟨tt, htt⟩ : ∃ tt, tot c (fun c => (E.cl c : Int) - D.next c) = tt := ⟨_, rfl⟩
  have hb1 : 0 ≤ tt ∧ tt ≤ c * 1048576 := htt ▸ tot_le (fun j hj => by have := HNX.out j hj; have := HRd.out.m_cl j (by omega); omega)
  rw [htt] at h12
  have HTT := hide htt
  clear htt
  by_cases hcn : c < E.nc
  · have hRw := HRd.out.below HB.out
    have hSw := HS.out.below HB.out hSB
    have s1 : w'.cell? ⟨S, 1, none⟩ = some (.slice (T.A 1) E.nc (T.cap 1)) := hSw 1 (by decide)
    have s2 : w'.cell? ⟨S, 2, none⟩ = some (.slice (T.A 2) E.nc (T.cap 2)) := hSw 2 (by decide)
    have n1 := hRw.n1 (by omega)
    have n2 := hRw.n2 (by omega)
    have d1 := hRw.d1 c hcn
    have d2 := hRw.d2 c hcn
    have hml := hRw.m_cl c hcn
    clear hSw hRw
    by_cases g1' : D.next c < 0
    · repeat (first
        | (refine wpList_put hD hV ?hd ?_; (case hd => decide); clear hD hV; (try clear a); intro a hD hV)
        | ((first | refine wpList_plain rfl (fun K hK => ?_) | refine wpList_step (fun K hK => ?_)); go_simp; refine hK _ _ ?_; clear hK K)
        | (refine wp_cond_true ?hc ?_; (case hc => simp [Act.eval, hV, hfs]; done))
        | (refine wp_cond_false ?hc ?_; (case hc => simp [Act.eval, hV, hfs]; done))
        | go_step)
      exact HR.out a _ _ hD hV (by simp [hfs]) HB.out (fun h => by have := h.nx c hcn; omega)
    · by_cases g2' : (E.cl c : Int) < D.next c
      · repeat (first
          | (refine wpList_put hD hV ?hd ?_; (case hd => decide); clear hD hV; (try clear a); intro a hD hV)
          | ((first | refine wpList_plain rfl (fun K hK => ?_) | refine wpList_step (fun K hK => ?_)); go_simp; refine hK _ _ ?_; clear hK K)
          | (refine wp_cond_true ?hc ?_; (case hc => simp [Act.eval, hV, hfs]; done))
          | (refine wp_cond_false ?hc ?_; (case hc => simp [Act.eval, hV, hfs]; done))
          | go_step)
        exact HR.out a _ _ hD hV (by simp [hfs]) HB.out (fun h => by have := h.nx c hcn; omega)
      · have e1 : IntKind.i64.wrap ((E.cl c : Int) - D.next c) = (E.cl c : Int) - D.next c := wrap64 (by unfold i64; omega)
        have e2 : IntKind.i64.wrap (tt + ((E.cl c : Int) - D.next c)) = tt + ((E.cl c : Int) - D.next c) := wrap64 (by unfold i64; omega)
        have e3 : IntKind.i64.wrap ((c : Int) + 1) = (c : Int) + 1 := wrap64 (by unfold i64; omega)
        repeat (first
          | (refine wpList_put hD hV ?hd ?_; (case hd => decide); clear hD hV; (try clear a); intro a hD hV)
          | ((first | refine wpList_plain rfl (fun K hK => ?_) | refine wpList_step (fun K hK => ?_)); go_simp; refine hK _ _ ?_; clear hK K)
          | (refine wp_cond_true ?hc ?_; (case hc => simp [Act.eval, hV, hfs]; done))
          | (refine wp_cond_false ?hc ?_; (case hc => simp [Act.eval, hV, hfs]; done))
          | go_step)
        refine wp_loop_f (N := 864) (fun m f w' => ∃ (k : Nat) (cof plc : Nat → Int), k ≤ E.cl c ∧ m = E.cl c - k ∧ f 15 = .int .i64 (k : Nat) ∧ f 13 = .int .i64 (c : Nat) ∧ f 14 = .slice (T.cA c) (E.cl c) (T.cc c) ∧ Bs T E S f ∧ f 9 = .slice (some ⟨g1, 0, none⟩) E.n E.n ∧ f 10 = .slice (some ⟨g2, 0, none⟩) E.n E.n ∧
          f 12 = .int .i64 (tt + ((E.cl c : Int) - D.next c)) ∧ Below B W w' ∧ B ≤ w'.heap.size ∧ Own B w' g1 E.n 3 (fun j => .int .i64 (cof j)) ∧ Own B w' g2 E.n 3 (fun j => .int .i64 (plc j)) ∧ CpTo E cof plc c k) (E.cl c) hD hV
          ⟨0, cof, plc, by omega, by omega, by simp [hfs], by simp [hfs, h13], by simp [hfs], ⟨by simp [hfs, h0], by simp [hfs, h3], by simp [hfs, h5], by simp [hfs, h6], by simp [hfs, h7]⟩, by simp [hfs, h9], by simp [hfs, h10], by simp [hfs], HB.out, hB', HO.out, HP.out, HCP.out⟩ ?_
        clear h0 h3 h5 h6 h7 h9 h10 h12 h13 hD hV a f d1 d2 s1 s2 n1 n2 HO HP HCP HB e1 e2
        intro m2 f w2 a hD hV ⟨k, cof, plc, hk, hm2, h15, h13, h14, hb, h9, h10, h12, hbel, hB2, ho, hp, hcp⟩ K2 hK2
        obtain ⟨h0, h3, h5, h6, h7⟩ := hb
        have HO := hide ho
        have HP := hide hp
        have HB := hide hbel
        have HCP := hide hcp
        have HK2 := hide hK2
        clear ho hp hbel hcp hK2
        by_cases hkn : k < E.cl c
        · have hRw := HRd.out.below HB.out
          have cn := hRw.cn c hcn (by omega)
          have cd := hRw.cd c hcn k hkn
          have rc := hRw.r_ch c hcn k hkn
          have w1 := wrap64' rc
          have e4 : IntKind.i64.wrap ((k : Int) + 1) = (k : Int) + 1 := wrap64 (by unfold i64; omega)
          clear hRw
          by_cases q1 : E.ch c k < 0
          · repeat (first
              | (refine wpList_put hD hV ?hd ?_; (case hd => decide); clear hD hV; (try clear a); intro a hD hV)
              | ((first | refine wpList_plain rfl (fun K hK => ?_) | refine wpList_step (fun K hK => ?_)); go_simp; refine hK _ _ ?_; clear hK K)
              | (refine wp_cond_true ?hc ?_; (case hc => simp [Act.eval, hV, hfs]; done))
              | (refine wp_cond_false ?hc ?_; (case hc => simp [Act.eval, hV, hfs]; done))
              | go_step)
            exact HR.out a _ _ hD hV (by simp [hfs]) HB.out (fun h => by have := h.chr c hcn k hkn; omega)
          · by_cases q2 : (E.n : Int) ≤ E.ch c k
            · repeat (first
                | (refine wpList_put hD hV ?hd ?_; (case hd => decide); clear hD hV; (try clear a); intro a hD hV)
                | ((first | refine wpList_plain rfl (fun K hK => ?_) | refine wpList_step (fun K hK => ?_)); go_simp; refine hK _ _ ?_; clear hK K)
                | (refine wp_cond_true ?hc ?_; (case hc => simp [Act.eval, hV, hfs]; done))
                | (refine wp_cond_false ?hc ?_; (case hc => simp [Act.eval, hV, hfs]; done))
                | go_step)
              exact HR.out a _ _ hD hV (by simp [hfs]) HB.out (fun h => by have := h.chr c hcn k hkn; omega)
            · obtain ⟨i, hi⟩ := Int.eq_ofNat_of_zero_le (show 0 ≤ E.ch c k by omega)
              have hin : i < E.n := by omega
              rw [hi] at cd w1
              have c1 := HO.out.arr.cell hin
              have c2 := HO.out.arr.frozen i
              have q3 : ¬ (E.n : Int) ≤ (i : Int) := by omega
              have q4 : ¬ (i : Int) < 0 := by omega
              have HI := hide hi
              clear hi q1 q2 rc
              by_cases q5 : 0 ≤ cof i
              · repeat (first
                  | (refine wpList_put hD hV ?hd ?_; (case hd => decide); clear hD hV; (try clear a); intro a hD hV)
                  | ((first | refine wpList_plain rfl (fun K hK => ?_) | refine wpList_step (fun K hK => ?_)); go_simp; refine hK _ _ ?_; clear hK K)
                  | (refine wp_cond_true ?hc ?_; (case hc => simp [Act.eval, hV, hfs]; done))
                  | (refine wp_cond_false ?hc ?_; (case hc => simp [Act.eval, hV, hfs]; done))
                  | go_step)
                refine HR.out a _ _ hD hV (by simp [hfs]) HB.out (fun h => ?_)
                obtain ⟨c', k', a1, a2, a3, a4, _⟩ := HCP.out.of_ i hin q5
                have := h.inj c' k' c k a1 a2 hcn hkn (by rw [a4, HI.out])
                omega
              · have f1 : ∀ v, (w2.setCell ⟨g1, i, none⟩ v).cell? ⟨g2, i, none⟩ = some (.int .i64 (plc i)) := fun v => (HP.out.far (p := ⟨g1, i, none⟩) (fun e => hne e.symm) v).arr.cell hin
                have f2 : ∀ v, (w2.setCell ⟨g1, i, none⟩ v).frozen? ⟨g2, i, none⟩ = false := fun v => (HP.out.far (p := ⟨g1, i, none⟩) (fun e => hne e.symm) v).arr.frozen i
                repeat (first
                  | (refine wpList_put hD hV ?hd ?_; (case hd => decide); clear hD hV; (try clear a); intro a hD hV)
                  | ((first | refine wpList_plain rfl (fun K hK => ?_) | refine wpList_step (fun K hK => ?_)); go_simp; refine hK _ _ ?_; clear hK K)
                  | (refine wp_cond_true ?hc ?_; (case hc => simp [Act.eval, hV, hfs]; done))
                  | (refine wp_cond_false ?hc ?_; (case hc => simp [Act.eval, hV, hfs]; done))
                  | go_step)
                refine HK2.out a _ _ (E.cl c - (k + 1)) hD hV (by omega) ⟨k + 1, upd cof i c, upd plc i k, by omega, rfl, by simp [hfs], by simp [hfs, h13], by simp [hfs, h14], ⟨by simp [hfs, h0], by simp [hfs, h3], by simp [hfs, h5], by simp [hfs, h6], by simp [hfs, h7]⟩, by simp [hfs, h9], by simp [hfs, h10], by simp [hfs, h12],
                  (HB.out.setCell HO.out.ge _).setCell HP.out.ge _, by simpa using hB2, ((HO.out.set hin _).far hne _).congr (fun j hj => ?_), ((HP.out.far (fun e => hne e.symm) _).set hin _).congr (fun j hj => ?_), HCP.out.step hcn hkn hin HI.out (by omega)⟩
                · unfold fset upd; split <;> rfl
                · unfold fset upd; split <;> rfl
        · repeat (first
            | (refine wpList_put hD hV ?hd ?_; (case hd => decide); clear hD hV; (try clear a); intro a hD hV)
            | ((first | refine wpList_plain rfl (fun K hK => ?_) | refine wpList_step (fun K hK => ?_)); go_simp; refine hK _ _ ?_; clear hK K)
            | (refine wp_cond_true ?hc ?_; (case hc => simp [Act.eval, hV, hfs]; done))
            | (refine wp_cond_false ?hc ?_; (case hc => simp [Act.eval, hV, hfs]; done))
            | go_step)
          have hkc : k = E.cl c := by omega
          subst hkc
          refine HK.out a _ _ (E.nc - (c + 1)) hD hV (by omega) ⟨c + 1, cof, plc, by omega, rfl, by simp [hfs], ⟨by simp [hfs, h0], by simp [hfs, h3], by simp [hfs, h5], by simp [hfs, h6], by simp [hfs, h7]⟩, by simp [hfs, h9], by simp [hfs, h10], by simp [hfs, h12, tot, HTT.out], HB.out, hB2, HO.out, HP.out, fun c' hc' => ?_, HCP.out.next⟩
          by_cases e : c' = c
          · subst e; omega
          · exact HNX.out c' (by omega)
  · repeat (first
      | (refine wpList_put hD hV ?hd ?_; (case hd => decide); clear hD hV; (try clear a); intro a hD hV)
      | ((first | refine wpList_plain rfl (fun K hK => ?_) | refine wpList_step (fun K hK => ?_)); go_simp; refine hK _ _ ?_; clear hK K)
      | (refine wp_cond_true ?hc ?_; (case hc => simp [Act.eval, hV, hfs]; done))
      | (refine wp_cond_false ?hc ?_; (case hc => simp [Act.eval, hV, hfs]; done))
      | go_step)
    have hcc : c = E.nc := by omega
    subst hcc
    exact HN.out a _ _ cof plc hD hV ⟨by simp [hfs, h0], by simp [hfs, h3], by simp [hfs, h5], by simp [hfs, h6], by simp [hfs, h7]⟩ (by simp [hfs, h9]) (by simp [hfs, h10]) (by simp [hfs, h12, HTT.out]) HB.out hB' HO.out HP.out ⟨HNX.out, HCP.out⟩
end
end Go.Proofs.Qxb6616080a
