import Derived.Test.Qxb6616080aF7h
namespace Go.Proofs.Qxb6616080a
open Go.RowKit
set_option linter.unusedVariables false
set_option linter.unusedSimpArgs false
set_option maxRecDepth 100000

def Env.holdTo (E : Env) (a : Int) (v c k : Nat) : Bool := (List.range k).any fun k => decide (a ≤ (k : Int)) && E.wr (E.op c k) && decide (E.vv (E.op c k) = (v : Int))
theorem Env.hold_to (E : Env) (a : Int) (v c : Nat) : E.hold a v c = E.holdTo a v c (E.cl c) := rfl
theorem Env.holdTo_succ (E : Env) (a : Int) (v c k : Nat) : E.holdTo a v c (k + 1) = (E.holdTo a v c k || (decide (a ≤ (k : Int)) && E.wr (E.op c k) && decide (E.vv (E.op c k) = (v : Int)))) := by
  unfold Env.holdTo
  rw [List.range_succ, List.any_append]
  simp

theorem wrap32' {x : Int} (h : i32 x) : IntKind.i32.wrap x = x := by
  unfold i32 at h
  simp [IntKind.wrap, IntKind.bits, IntKind.signed]
  omega

structure HolTo (E : Env) (D : Dyn) (c k : Nat) (hf hs lc : Nat → Int) : Prop where
  ho : ∀ v, v < E.nv → hf v = (cnt c (fun c' => E.hold (D.next c') v c') : Nat) + (if E.holdTo (D.next c) v c k then 1 else 0)
  su : ∀ v, v < E.nv → hs v = (sumIf c (fun c' => E.hold (D.next c') v c') : Nat) + (if E.holdTo (D.next c) v c k then (c : Int) else 0)
  la : ∀ v, v < E.nv → lc v ≤ c ∧ (lc v = (c : Int) ↔ E.holdTo (D.next c) v c k = true)

section
variable {Q : Exit → Act → World → Prop} {W : World} {T : Ad} {E : Env} {D : Dyn} {B S : Nat} {mix : Nat → Nat}

theorem HolTo.same {c k : Nat} {hf hs lc : Nat → Int} (h : HolTo E D c k hf hs lc) (hno : ∀ v, v < E.nv → E.holdTo (D.next c) v c (k + 1) = E.holdTo (D.next c) v c k) : HolTo E D c (k + 1) hf hs lc :=
  ⟨fun v hv => by rw [hno v hv]; exact h.ho v hv, fun v hv => by rw [hno v hv]; exact h.su v hv, fun v hv => by rw [hno v hv]; exact h.la v hv⟩
theorem HolTo.skip {c k : Nat} {hf hs lc : Nat → Int} (h : HolTo E D c k hf hs lc) (hw : E.wr (E.op c k) = false) : HolTo E D c (k + 1) hf hs lc :=
  h.same fun v hv => by rw [E.holdTo_succ, hw]; simp
theorem HolTo.below {c k : Nat} {hf hs lc : Nat → Int} (h : HolTo E D c k hf hs lc) (hw : ¬ D.next c ≤ (k : Int)) : HolTo E D c (k + 1) hf hs lc :=
  h.same fun v hv => by rw [E.holdTo_succ, decide_eq_false hw]; simp
theorem HolTo.had {c k v : Nat} {hf hs lc : Nat → Int} (h : HolTo E D c k hf hs lc) (hvn : v < E.nv) (hv : E.vv (E.op c k) = (v : Int)) (hl : lc v = (c : Int)) : HolTo E D c (k + 1) hf hs lc :=
  h.same fun u hu => by
    rw [E.holdTo_succ]
    by_cases e : u = v
    · subst e; rw [((h.la u hu).2).1 hl]; simp
    · have : decide (E.vv (E.op c k) = (u : Int)) = false := by rw [hv]; simp; omega
      rw [this]; simp
theorem HolTo.new {c k v : Nat} {hf hs lc : Nat → Int} (h : HolTo E D c k hf hs lc) (hvn : v < E.nv) (hw : E.wr (E.op c k) = true) (hn : D.next c ≤ (k : Int)) (hv : E.vv (E.op c k) = (v : Int)) (hl : lc v ≠ (c : Int)) :
    HolTo E D c (k + 1) (upd hf v (hf v + 1)) (upd hs v (hs v + c)) (upd lc v c) := by
  have hno : E.holdTo (D.next c) v c k = false := by
    cases e : E.holdTo (D.next c) v c k
    · rfl
    · exact absurd ((h.la v hvn).2.2 e) hl
  have hyes : E.holdTo (D.next c) v c (k + 1) = true := by rw [E.holdTo_succ, hw, hv]; simp [hn]
  have hoth : ∀ u, u ≠ v → E.holdTo (D.next c) u c (k + 1) = E.holdTo (D.next c) u c k := by
    intro u e
    rw [E.holdTo_succ]
    have : decide (E.vv (E.op c k) = (u : Int)) = false := by rw [hv]; simp; omega
    rw [this]; simp
  refine ⟨fun u hu => ?_, fun u hu => ?_, fun u hu => ?_⟩
  · by_cases e : u = v
    · subst e; rw [upd_self, hyes, h.ho u hu, hno]; simp
    · rw [upd_ne _ _ e, hoth u e]; exact h.ho u hu
  · by_cases e : u = v
    · subst e; rw [upd_self, hyes, h.su u hu, hno]; simp
    · rw [upd_ne _ _ e, hoth u e]; exact h.su u hu
  · by_cases e : u = v
    · subst e; rw [upd_self, hyes]; simp
    · rw [upd_ne _ _ e, hoth u e]; exact h.la u hu
theorem HolTo.next {c : Nat} {hf hs lc : Nat → Int} (h : HolTo E D c (E.cl c) hf hs lc) : HolTo E D (c + 1) 0 hf hs lc := by
  refine ⟨fun v hv => ?_, fun v hv => ?_, fun v hv => ?_⟩
  · rw [h.ho v hv, ← E.hold_to]
    have : E.holdTo (D.next (c + 1)) v (c + 1) 0 = false := rfl
    rw [this]
    simp only [cnt]
    split <;> simp
  · rw [h.su v hv, ← E.hold_to]
    have : E.holdTo (D.next (c + 1)) v (c + 1) 0 = false := rfl
    rw [this]
    simp only [sumIf]
    split <;> simp
  · have h1 := (h.la v hv).1
    have : E.holdTo (D.next (c + 1)) v (c + 1) 0 = false := rfl
    rw [this]
    refine ⟨by omega, ?_⟩
    simp
    omega

/-- What the loop shows of 'LastWrite', up to place k of chain c. -/
def LstTo (E : Env) (c k : Nat) : Prop := ∀ c' k', c' < E.nc → k' < E.cl c' → (c' < c ∨ c' = c ∧ k' < k) → E.wr (E.op c' k') = true →
  (E.lastWrite (E.op c' k') = true ↔ ∀ j, k' < j → j < E.cl c' → E.wr (E.op c' j) = true → E.vv (E.op c' j) ≠ E.vv (E.op c' k'))

set_option maxHeartbeats 4000000 in
theorem st23 {a : Act} {w : World} {f : Nat → Value} {g6 g7 g8 : Nat} (hR : Rd W B T E D) (hS : Sb W S T E D) (hSB : S < B) (hW : Below B W w) (hB : B ≤ w.heap.size) (hb : Bs T E S f) (h25 : f 25 = .slice (some ⟨g6, 0, none⟩) E.nv E.nv) (h26 : f 26 = .slice (some ⟨g7, 0, none⟩) E.nv E.nv) (h27 : f 27 = .slice (some ⟨g8, 0, none⟩) E.nv E.nv) (l67 : g6 < g7) (l78 : g7 < g8)
    (ho6 : Own B w g6 E.nv 21 (fun _ => .int .i32 0)) (ho7 : Own B w g7 E.nv 3 (fun _ => .int .i64 0)) (ho8 : Own B w g8 E.nv 3 (fun _ => .int .i64 (-1)))
    (hchr : ∀ c, c < E.nc → ∀ k, k < E.cl c → 0 ≤ E.ch c k ∧ E.ch c k < E.n) (hnx : ∀ c, c < E.nc → 0 ≤ D.next c ∧ D.next c ≤ E.cl c) (hvs : ∀ i, i < E.n → 0 ≤ E.vv i ∧ E.vv i < E.nv) (hD : a.defers = []) (hV : ∀ j, j < 864 → a.tmps[j]? = some (f j))
    (hNext : ∀ (a : Act) (f : Nat → Value) (w' : World) (hf hs : Nat → Int), a.defers = [] → (∀ j, j < 864 → a.tmps[j]? = some (f j)) → Bs T E S f → f 25 = .slice (some ⟨g6, 0, none⟩) E.nv E.nv → f 26 = .slice (some ⟨g7, 0, none⟩) E.nv E.nv → Below B W w' → B ≤ w'.heap.size →
      Own B w' g6 E.nv 21 (fun j => .int .i32 (hf j)) → Own B w' g7 E.nv 3 (fun j => .int .i64 (hs j)) →
      (∀ v, v < E.nv → hf v = (cnt E.nc (fun c' => E.hold (D.next c') v c') : Nat)) → (∀ v, v < E.nv → hs v = (sumIf E.nc (fun c' => E.hold (D.next c') v c') : Nat)) → LstTo E E.nc 0 → Q .normal a w')
    (hRet : ∀ (a : Act) (f : Nat → Value) (w : World), a.defers = [] → (∀ j, j < 864 → a.tmps[j]? = some (f j)) → f 4 = .bool false → Below B W w → ¬ Holds E D mix → Q .ret a w) : Code.wp Try.prog (sub [1, 1, 1, 1, 1, 1, 1, 1, 1, 1, 1, 1, 1, 1, 1, 1, 1, 1, 1, 1, 1, 1, 1, 0] (Try.f7.body.getD .skip)) Q a w := by
  have hfs := fset_at
  obtain ⟨h0, h3, h5, h6, h7⟩ := hb
  have HN := hide hNext
  have HR := hide hRet
  have HO6 := hide ho6
  have HO7 := hide ho7
  have HO8 := hide ho8
  have HRd := hide hR
  have HS := hide hS
  have HW := hide hW
  have HC := hide hchr
  have HX := hide hnx
  have HV := hide hvs
  have m2 := hR.m_c
  clear hNext hRet ho6 ho7 ho8 hR hS hW hchr hnx hvs
  conv => arg 2; whnf
  repeat (first
    | (refine wpList_put hD hV ?hd ?_; (case hd => decide); clear hD hV; (try clear a); intro a hD hV)
    | ((first | refine wpList_plain rfl (fun K hK => ?_) | refine wpList_step (fun K hK => ?_)); go_simp; refine hK _ _ ?_; clear hK K)
    | (refine wp_cond_true ?hc ?_; (case hc => simp [Act.eval, hV, hfs]; done))
    | (refine wp_cond_false ?hc ?_; (case hc => simp [Act.eval, hV, hfs]; done))
    | go_step)
  refine wp_loop_f (N := 864) (fun m f w' => ∃ (c : Nat) (hf hs lc : Nat → Int), c ≤ E.nc ∧ m = E.nc - c ∧ f 29 = .int .i64 (c : Nat) ∧ Bs T E S f ∧ f 25 = .slice (some ⟨g6, 0, none⟩) E.nv E.nv ∧ f 26 = .slice (some ⟨g7, 0, none⟩) E.nv E.nv ∧ f 27 = .slice (some ⟨g8, 0, none⟩) E.nv E.nv ∧
    Below B W w' ∧ B ≤ w'.heap.size ∧ Own B w' g6 E.nv 21 (fun j => .int .i32 (hf j)) ∧ Own B w' g7 E.nv 3 (fun j => .int .i64 (hs j)) ∧ Own B w' g8 E.nv 3 (fun j => .int .i64 (lc j)) ∧ HolTo E D c 0 hf hs lc ∧ LstTo E c 0) E.nc hD hV
    ⟨0, fun _ => 0, fun _ => 0, fun _ => -1, by omega, by omega, by simp [hfs], ⟨by simp [hfs, h0], by simp [hfs, h3], by simp [hfs, h5], by simp [hfs, h6], by simp [hfs, h7]⟩, by simp [hfs, h25], by simp [hfs, h26], by simp [hfs, h27], HW.out, hB, HO6.out, HO7.out, HO8.out,
      ⟨fun _ _ => rfl, fun _ _ => rfl, fun _ _ => ⟨by simp, by simp [Env.holdTo]⟩⟩, fun _ _ _ _ h => by omega⟩ ?_
  clear h0 h3 h5 h6 h7 h25 h26 h27 hD hV a f HO6 HO7 HO8 HW
  intro m f w' a hD hV ⟨c, hf, hs, lc, hc, hm', h29, hb, h25, h26, h27, hbel, hB', ho6, ho7, ho8, hh, hl⟩ K hK
  obtain ⟨h0, h3, h5, h6, h7⟩ := hb
  have HO6 := hide ho6
  have HO7 := hide ho7
  have HO8 := hide ho8
  have HB := hide hbel
  have HH := hide hh
  have HL := hide hl
  have HK := hide hK
  clear ho6 ho7 ho8 hbel hh hl hK
  by_cases hcn : c < E.nc
  · have s1 : w'.cell? ⟨S, 1, none⟩ = some (.slice (T.A 1) E.nc (T.cap 1)) := HS.out.below HB.out hSB 1 (by decide)
    have n1 := HRd.out.n1 (by omega)
    have d1 := (HRd.out.below HB.out).d1 c hcn
    have hml := HRd.out.m_cl c hcn
    have e3 : IntKind.i64.wrap ((c : Int) + 1) = (c : Int) + 1 := wrap64 (by unfold i64; omega)
    repeat (first
      | (refine wpList_put hD hV ?hd ?_; (case hd => decide); clear hD hV; (try clear a); intro a hD hV)
      | ((first | refine wpList_plain rfl (fun K hK => ?_) | refine wpList_step (fun K hK => ?_)); go_simp; refine hK _ _ ?_; clear hK K)
      | (refine wp_cond_true ?hc ?_; (case hc => simp [Act.eval, hV, hfs]; done))
      | (refine wp_cond_false ?hc ?_; (case hc => simp [Act.eval, hV, hfs]; done))
      | go_step)
    refine wp_loop_f (N := 864) (fun m f w' => ∃ (k : Nat) (hf hs lc : Nat → Int), k ≤ E.cl c ∧ m = E.cl c - k ∧ f 31 = .int .i64 (k : Nat) ∧ f 29 = .int .i64 (c : Nat) ∧ f 30 = .slice (T.cA c) (E.cl c) (T.cc c) ∧ Bs T E S f ∧ f 25 = .slice (some ⟨g6, 0, none⟩) E.nv E.nv ∧ f 26 = .slice (some ⟨g7, 0, none⟩) E.nv E.nv ∧ f 27 = .slice (some ⟨g8, 0, none⟩) E.nv E.nv ∧
      Below B W w' ∧ B ≤ w'.heap.size ∧ Own B w' g6 E.nv 21 (fun j => .int .i32 (hf j)) ∧ Own B w' g7 E.nv 3 (fun j => .int .i64 (hs j)) ∧ Own B w' g8 E.nv 3 (fun j => .int .i64 (lc j)) ∧ HolTo E D c k hf hs lc ∧ LstTo E c k) (E.cl c) hD hV
      ⟨0, hf, hs, lc, by omega, by omega, by simp [hfs], by simp [hfs, h29], by simp [hfs], ⟨by simp [hfs, h0], by simp [hfs, h3], by simp [hfs, h5], by simp [hfs, h6], by simp [hfs, h7]⟩, by simp [hfs, h25], by simp [hfs, h26], by simp [hfs, h27], HB.out, hB', HO6.out, HO7.out, HO8.out, HH.out, HL.out⟩ ?_
    clear h0 h3 h5 h6 h7 h25 h26 h27 h29 hD hV a f s1 d1 n1 HO6 HO7 HO8 HB HH HL hf hs lc
    intro m2 f w2 a hD hV ⟨k, hf, hs, lc, hk, hm2, h31, h29, h30, hb, h25, h26, h27, hbel, hB2, ho6, ho7, ho8, hh, hl⟩ K2 hK2
    obtain ⟨h0, h3, h5, h6, h7⟩ := hb
    have HO6 := hide ho6
    have HO7 := hide ho7
    have HO8 := hide ho8
    have HB := hide hbel
    have HH := hide hh
    have HL := hide hl
    have HK2 := hide hK2
    clear ho6 ho7 ho8 hbel hh hl hK2
    by_cases hkn : k < E.cl c
    · have HRw := hide (HRd.out.below HB.out)
      have cn := HRw.out.cn c hcn (by omega)
      have on := HRw.out.on (by have := HC.out c hcn k hkn; omega)
      obtain ⟨i, hi⟩ : ∃ i, E.op c k = i := ⟨_, rfl⟩
      have hoi := opEq HC.out hcn hkn
      rw [hi] at hoi
      obtain ⟨hch, hin⟩ := hoi
      have cd := HRw.out.cd c hcn k hkn
      rw [hch] at cd
      have o2 := HRw.out.o2 i hin
      have e4 : IntKind.i64.wrap ((k : Int) + 1) = (k : Int) + 1 := wrap64 (by unfold i64; omega)
      have HI := hide hi
      clear hch hi
      cases q1 : E.wr i
      case false =>
        repeat (first
          | (refine wpList_put hD hV ?hd ?_; (case hd => decide); clear hD hV; (try clear a); intro a hD hV)
          | ((first | refine wpList_plain rfl (fun K hK => ?_) | refine wpList_step (fun K hK => ?_)); go_simp; refine hK _ _ ?_; clear hK K)
          | (refine wp_cond_true ?hc ?_; (case hc => simp [Act.eval, hV, hfs]; done))
          | (refine wp_cond_false ?hc ?_; (case hc => simp [Act.eval, hV, hfs]; done))
          | go_step)
        refine HK2.out a _ _ (E.cl c - (k + 1)) hD hV (by omega) ⟨k + 1, hf, hs, lc, by omega, rfl, by simp [hfs], by simp [hfs, h29], by simp [hfs, h30], ⟨by simp [hfs, h0], by simp [hfs, h3], by simp [hfs, h5], by simp [hfs, h6], by simp [hfs, h7]⟩, by simp [hfs, h25], by simp [hfs, h26], by simp [hfs, h27], HB.out, hB2, HO6.out, HO7.out, HO8.out, HH.out.skip (by rw [HI.out]; exact q1), ?_⟩
        intro c' k' a1 a2 a3 a4
        by_cases e : c' = c ∧ k' = k
        · obtain ⟨rfl, rfl⟩ := e; rw [HI.out, q1] at a4; cases a4
        · exact HL.out c' k' a1 a2 (by omega) a4
      case true =>
        repeat (first
          | (refine wpList_put hD hV ?hd ?_; (case hd => decide); clear hD hV; (try clear a); intro a hD hV)
          | ((first | refine wpList_plain rfl (fun K hK => ?_) | refine wpList_step (fun K hK => ?_)); go_simp; refine hK _ _ ?_; clear hK K)
          | (refine wp_cond_true ?hc ?_; (case hc => simp [Act.eval, hV, hfs]; done))
          | (refine wp_cond_false ?hc ?_; (case hc => simp [Act.eval, hV, hfs]; done))
          | go_step)
        refine lastLoop (c := c) (k := k) (i := i) HRw.out HC.out hcn hkn hin (by simp [hfs, h0]) (by simp [hfs, h30]) (by simp [hfs]) (by simp [hfs]) (by simp [hfs]) hD hV ?_
        clear hD hV
        intro a' f' q L hD hV hpre h33 hL
        have HLL := hide hL
        have p0 := (hpre 0 (by omega)).trans (by simp [hfs, h0]; rfl)
        have p3 := (hpre 3 (by omega)).trans (by simp [hfs, h3]; rfl)
        have p5 := (hpre 5 (by omega)).trans (by simp [hfs, h5]; rfl)
        have p6 := (hpre 6 (by omega)).trans (by simp [hfs, h6]; rfl)
        have p7 := (hpre 7 (by omega)).trans (by simp [hfs, h7]; rfl)
        have p25 := (hpre 25 (by omega)).trans (by simp [hfs, h25]; rfl)
        have p26 := (hpre 26 (by omega)).trans (by simp [hfs, h26]; rfl)
        have p27 := (hpre 27 (by omega)).trans (by simp [hfs, h27]; rfl)
        have p29 := (hpre 29 (by omega)).trans (by simp [hfs, h29]; rfl)
        have p30 := (hpre 30 (by omega)).trans (by simp [hfs, h30]; rfl)
        have p31 := (hpre 31 (by omega)).trans (by simp [hfs, h31]; rfl)
        have p32 := (hpre 32 (by omega)).trans (by simp [hfs]; rfl)
        clear h0 h3 h5 h6 h7 h25 h26 h27 h29 h30 h31 hpre hL
        have h0 := p0
        have h3 := p3
        have h5 := p5
        have h6 := p6
        have h7 := p7
        clear p0 p3 p5 p6 p7
        obtain ⟨a, rfl⟩ : ∃ a, a = a' := ⟨_, rfl⟩
        have s10 : w2.cell? ⟨S, 10, none⟩ = some (.slice (T.A 10) E.n (T.cap 10)) := HS.out.below HB.out hSB 10 (by decide)
        have s2 : w2.cell? ⟨S, 2, none⟩ = some (.slice (T.A 2) E.nc (T.cap 2)) := HS.out.below HB.out hSB 2 (by decide)
        have n10 := HRw.out.n10 (by omega)
        have n2 := HRw.out.n2 (by omega)
        have d10 := HRw.out.d10 i hin
        have d2 := HRw.out.d2 c hcn
        obtain ⟨v, hv⟩ := Int.eq_ofNat_of_zero_le (HV.out i hin).1
        have hvn : v < E.nv := by have := (HV.out i hin).2; omega
        have o3 := HRw.out.o3 i hin
        rw [hv] at o3
        have HVV := hide hv
        clear hv
        cases q2 : (E.lastWrite i == L)
        case false =>
          repeat (first
            | (refine wpList_put hD hV ?hd ?_; (case hd => decide); clear hD hV; (try clear a); intro a hD hV)
            | ((first | refine wpList_plain rfl (fun K hK => ?_) | refine wpList_step (fun K hK => ?_)); go_simp; refine hK _ _ ?_; clear hK K)
            | (refine wp_cond_true ?hc ?_; (case hc => simp [Act.eval, hV, hfs]; done))
            | (refine wp_cond_false ?hc ?_; (case hc => simp [Act.eval, hV, hfs]; done))
            | go_step)
          refine HR.out a _ _ hD hV (by simp [hfs]) (bdrewN HB.out _) (fun h => ?_)
          have h1 := h.lst c hcn k hkn (by rw [HI.out]; exact q1)
          rw [HI.out] at h1
          have h2 : E.lastWrite i = L := Bool.eq_iff_iff.2 (h1.trans HLL.out.symm)
          simp [h2] at q2
        case true =>
          have hlst : Hid (LstTo E c (k + 1)) := by
            intro c' k' a1 a2 a3 a4
            by_cases e : c' = c ∧ k' = k
            · obtain ⟨rfl, rfl⟩ := e
              rw [HI.out]
              have : E.lastWrite i = L := by simpa using q2
              rw [this]; exact HLL.out
            · exact HL.out c' k' a1 a2 (by omega) a4
          by_cases q3 : D.next c ≤ (k : Int)
          · have c8 := HO8.out.arr.cell hvn
            cases q4 : (lc v != (c : Int))
            case false =>
              repeat (first
                | (refine wpList_put hD hV ?hd ?_; (case hd => decide); clear hD hV; (try clear a); intro a hD hV)
                | ((first | refine wpList_plain rfl (fun K hK => ?_) | refine wpList_step (fun K hK => ?_)); go_simp; refine hK _ _ ?_; clear hK K)
                | (refine wp_cond_true ?hc ?_; (case hc => simp [Act.eval, hV, hfs]; done))
                | (refine wp_cond_false ?hc ?_; (case hc => simp [Act.eval, hV, hfs]; done))
                | go_step)
              exact HK2.out a _ _ (E.cl c - (k + 1)) hD hV (by omega) ⟨k + 1, hf, hs, lc, by omega, rfl, by simp [hfs], by simp [hfs, p29], by simp [hfs, p30], ⟨by simp [hfs, h0], by simp [hfs, h3], by simp [hfs, h5], by simp [hfs, h6], by simp [hfs, h7]⟩, by simp [hfs, p25], by simp [hfs, p26], by simp [hfs, p27], bdrewN HB.out _, hB2, HO6.out.drewN _, HO7.out.drewN _, HO8.out.drewN _, HH.out.had hvn (by rw [HI.out]; exact HVV.out) (by simpa using q4), hlst.out⟩
            case true =>
              have hnew := hide (HH.out.new hvn (by rw [HI.out]; exact q1) q3 (by rw [HI.out]; exact HVV.out) (by simpa using q4))
              have f8 := HO8.out.arr.frozen v
              have hob : T.ob < B := HRw.out.oB (by omega)
              have hg8 := HO8.out.ge
              have hg6 := HO6.out.ge
              have hg7 := HO7.out.ge
              have x1 : ∀ q x, ((w2.drewN q).setCell ⟨g8, v, none⟩ x).cell? ⟨T.ob, T.oo + i * 6 + 3, none⟩ = some (.int .i32 (v : Int)) := fun q x => by rw [cell_far _ _ _ _ (by show g8 ≠ T.ob; omega)]; exact o3
              have x2 : ∀ q x, ((w2.drewN q).setCell ⟨g8, v, none⟩ x).cell? ⟨g6, v, none⟩ = some (.int .i32 (hf v)) := fun q x => ((HO6.out.drewN q).far (p := ⟨g8, v, none⟩) (by show g6 ≠ g8; omega) x).arr.cell hvn
              have x3 : ∀ q x, ((w2.drewN q).setCell ⟨g8, v, none⟩ x).frozen? ⟨g6, v, none⟩ = false := fun q x => ((HO6.out.drewN q).far (p := ⟨g8, v, none⟩) (by show g6 ≠ g8; omega) x).arr.frozen v
              have x4 : ∀ q x y, (((w2.drewN q).setCell ⟨g8, v, none⟩ x).setCell ⟨g6, v, none⟩ y).cell? ⟨T.ob, T.oo + i * 6 + 3, none⟩ = some (.int .i32 (v : Int)) := fun q x y => by rw [cell_far _ _ _ _ (by show g6 ≠ T.ob; omega)]; exact x1 q x
              have x5 : ∀ q x y, (((w2.drewN q).setCell ⟨g8, v, none⟩ x).setCell ⟨g6, v, none⟩ y).cell? ⟨g7, v, none⟩ = some (.int .i64 (hs v)) := fun q x y => (((HO7.out.drewN q).far (p := ⟨g8, v, none⟩) (by show g7 ≠ g8; omega) x).far (p := ⟨g6, v, none⟩) (by show g7 ≠ g6; omega) y).arr.cell hvn
              have x6 : ∀ q x y, (((w2.drewN q).setCell ⟨g8, v, none⟩ x).setCell ⟨g6, v, none⟩ y).frozen? ⟨g7, v, none⟩ = false := fun q x y => (((HO7.out.drewN q).far (p := ⟨g8, v, none⟩) (by show g7 ≠ g8; omega) x).far (p := ⟨g6, v, none⟩) (by show g7 ≠ g6; omega) y).arr.frozen v
              have e5 : IntKind.i32.wrap (hf v + 1) = hf v + 1 := wrap32' (by
                have h1 := HH.out.ho v hvn
                have h2 := cnt_le c (fun c' => E.hold (D.next c') v c')
                split at h1 <;> (unfold i32; omega))
              have e6 : IntKind.i64.wrap (hs v + (c : Int)) = hs v + (c : Int) := wrap64 (by
                have h1 := HH.out.su v hvn
                have h2 := sumIf_le c (fun c' => E.hold (D.next c') v c')
                have h3 : c * c ≤ 4096 * 4096 := Nat.mul_le_mul (by omega) (by omega)
                split at h1 <;> (unfold i64; omega))
              repeat (first
                | (refine wpList_put hD hV ?hd ?_; (case hd => decide); clear hD hV; (try clear a); intro a hD hV)
                | ((first | refine wpList_plain rfl (fun K hK => ?_) | refine wpList_step (fun K hK => ?_)); go_simp; refine hK _ _ ?_; clear hK K)
                | (refine wp_cond_true ?hc ?_; (case hc => simp [Act.eval, hV, hfs]; done))
                | (refine wp_cond_false ?hc ?_; (case hc => simp [Act.eval, hV, hfs]; done))
                | go_step)
              refine HK2.out a _ _ (E.cl c - (k + 1)) hD hV (by omega) ⟨k + 1, upd hf v (hf v + 1), upd hs v (hs v + c), upd lc v c, by omega, rfl, by simp [hfs], by simp [hfs, p29], by simp [hfs, p30], ⟨by simp [hfs, h0], by simp [hfs, h3], by simp [hfs, h5], by simp [hfs, h6], by simp [hfs, h7]⟩, by simp [hfs, p25], by simp [hfs, p26], by simp [hfs, p27],
                (((bdrewN HB.out _).setCell HO8.out.ge _).setCell HO6.out.ge _).setCell HO7.out.ge _, by simpa using hB2,
                ((((HO6.out.drewN _).far (by show g6 ≠ g8; omega) _).set hvn _).far (by show g6 ≠ g7; omega) _).congr (fun j hj => by unfold fset upd; split <;> rfl),
                ((((HO7.out.drewN _).far (by show g7 ≠ g8; omega) _).far (by show g7 ≠ g6; omega) _).set hvn _).congr (fun j hj => by unfold fset upd; split <;> rfl),
                ((((HO8.out.drewN _).set hvn _).far (by show g8 ≠ g6; omega) _).far (by show g8 ≠ g7; omega) _).congr (fun j hj => by unfold fset upd; split <;> rfl), hnew.out, hlst.out⟩
          · repeat (first
              | (refine wpList_put hD hV ?hd ?_; (case hd => decide); clear hD hV; (try clear a); intro a hD hV)
              | ((first | refine wpList_plain rfl (fun K hK => ?_) | refine wpList_step (fun K hK => ?_)); go_simp; refine hK _ _ ?_; clear hK K)
              | (refine wp_cond_true ?hc ?_; (case hc => simp [Act.eval, hV, hfs]; done))
              | (refine wp_cond_false ?hc ?_; (case hc => simp [Act.eval, hV, hfs]; done))
              | go_step)
            exact HK2.out a _ _ (E.cl c - (k + 1)) hD hV (by omega) ⟨k + 1, hf, hs, lc, by omega, rfl, by simp [hfs], by simp [hfs, p29], by simp [hfs, p30], ⟨by simp [hfs, h0], by simp [hfs, h3], by simp [hfs, h5], by simp [hfs, h6], by simp [hfs, h7]⟩, by simp [hfs, p25], by simp [hfs, p26], by simp [hfs, p27], bdrewN HB.out _, hB2, HO6.out.drewN _, HO7.out.drewN _, HO8.out.drewN _, HH.out.below q3, hlst.out⟩
    · repeat (first
        | (refine wpList_put hD hV ?hd ?_; (case hd => decide); clear hD hV; (try clear a); intro a hD hV)
        | ((first | refine wpList_plain rfl (fun K hK => ?_) | refine wpList_step (fun K hK => ?_)); go_simp; refine hK _ _ ?_; clear hK K)
        | (refine wp_cond_true ?hc ?_; (case hc => simp [Act.eval, hV, hfs]; done))
        | (refine wp_cond_false ?hc ?_; (case hc => simp [Act.eval, hV, hfs]; done))
        | go_step)
      have hkc : k = E.cl c := by omega
      subst hkc
      refine HK.out a _ _ (E.nc - (c + 1)) hD hV (by omega) ⟨c + 1, hf, hs, lc, by omega, rfl, by simp [hfs], ⟨by simp [hfs, h0], by simp [hfs, h3], by simp [hfs, h5], by simp [hfs, h6], by simp [hfs, h7]⟩, by simp [hfs, h25], by simp [hfs, h26], by simp [hfs, h27], HB.out, hB2, HO6.out, HO7.out, HO8.out, HH.out.next, ?_⟩
      intro c' k' a1 a2 a3 a4
      exact HL.out c' k' a1 a2 (by
        rcases Nat.lt_or_ge c' c with h | h
        · exact .inl h
        · have : c' = c := by omega
          subst this; exact .inr ⟨rfl, a2⟩) a4
  · repeat (first
      | (refine wpList_put hD hV ?hd ?_; (case hd => decide); clear hD hV; (try clear a); intro a hD hV)
      | ((first | refine wpList_plain rfl (fun K hK => ?_) | refine wpList_step (fun K hK => ?_)); go_simp; refine hK _ _ ?_; clear hK K)
      | (refine wp_cond_true ?hc ?_; (case hc => simp [Act.eval, hV, hfs]; done))
      | (refine wp_cond_false ?hc ?_; (case hc => simp [Act.eval, hV, hfs]; done))
      | go_step)
    have hcc : c = E.nc := by omega
    subst hcc
    exact HN.out a _ _ hf hs hD hV ⟨by simp [hfs, h0], by simp [hfs, h3], by simp [hfs, h5], by simp [hfs, h6], by simp [hfs, h7]⟩ (by simp [hfs, h25]) (by simp [hfs, h26]) HB.out hB' HO6.out HO7.out (fun v hv => by rw [HH.out.ho v hv]; simp [Env.holdTo]) (fun v hv => by rw [HH.out.su v hv]; simp [Env.holdTo]) HL.out
end
end Go.Proofs.Qxb6616080a
