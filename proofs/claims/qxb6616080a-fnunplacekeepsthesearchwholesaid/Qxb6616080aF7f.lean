import Derived.Test.Qxb6616080aF7e
namespace Go.Proofs.Qxb6616080a
open Go.RowKit
set_option linter.unusedVariables false
set_option linter.unusedSimpArgs false
set_option maxRecDepth 100000

section
variable {Q : Exit → Act → World → Prop} {W : World} {T : Ad} {E : Env} {D : Dyn} {B S : Nat} {mix : Nat → Nat}

/-- What the awaiting loop has gathered from the first i operations. -/
structure Gat (E : Env) (D : Dyn) (i : Nat) (aw : Nat → Int) (ad : Nat → Bool) (ini : Nat → Int) : Prop where
  aw_ : ∀ j, j < E.n → aw j = (cnt i (fun x => E.rd x && decide (E.src x = (j : Int)) && !D.placed x) : Nat)
  ad_ : ∀ j, j < E.n → (ad j = true ↔ ∃ x, x < i ∧ E.rd x = true ∧ E.src x = (j : Int))
  ini_ : ∀ v, v < E.nv → ini v = (cnt i (fun x => E.rd x && decide (E.src x = -1) && decide (E.vv x = (v : Int)) && !D.placed x) : Nat)
  sr : ∀ x, x < i → E.rd x = true → E.src x ≠ -1 → (0 ≤ E.src x ∧ E.src x < E.n) ∧ E.wr (E.src x).toNat = true ∧ E.vv (E.src x).toNat = E.vv x

theorem Gat.skip {i : Nat} {aw : Nat → Int} {ad : Nat → Bool} {ini : Nat → Int} (h : Gat E D i aw ad ini) (hr : E.rd i = false) : Gat E D (i + 1) aw ad ini := by
  refine ⟨fun j hj => by rw [h.aw_ j hj]; simp [cnt, hr], fun j hj => ?_, fun v hv => by rw [h.ini_ v hv]; simp [cnt, hr], fun x hx h1 => ?_⟩
  · rw [h.ad_ j hj]
    constructor
    · rintro ⟨x, hx, r⟩; exact ⟨x, by omega, r⟩
    · rintro ⟨x, hx, r, r2⟩
      by_cases e : x = i
      · subst e; rw [hr] at r; cases r
      · exact ⟨x, by omega, r, r2⟩
  · by_cases e : x = i
    · subst e; rw [hr] at h1; cases h1
    · exact h.sr x (by omega) h1
theorem Gat.ini_step {i v : Nat} {aw : Nat → Int} {ad : Nat → Bool} {ini : Nat → Int} (h : Gat E D i aw ad ini) (hs : E.src i = -1) (hr : E.rd i = true) (hv : E.vv i = (v : Int)) :
    Gat E D (i + 1) aw ad (if D.placed i then ini else upd ini v (ini v + 1)) := by
  refine ⟨fun j hj => ?_, fun j hj => ?_, fun u hu => ?_, fun x hx h1 => ?_⟩
  · rw [h.aw_ j hj]
    have : decide (E.src i = (j : Int)) = false := by rw [hs]; simp <;> omega
    simp [cnt, this]
  · rw [h.ad_ j hj]
    constructor
    · rintro ⟨x, hx, r⟩; exact ⟨x, by omega, r⟩
    · rintro ⟨x, hx, r, r2⟩
      by_cases e : x = i
      · subst e; omega
      · exact ⟨x, by omega, r, r2⟩
  · by_cases hp : D.placed i = true
    · rw [if_pos hp, h.ini_ u hu]; simp [cnt, hp]
    · rw [if_neg hp]
      have hp' : D.placed i = false := by simpa using hp
      by_cases e : u = v
      · subst e; rw [upd_self, h.ini_ u hu]; simp [cnt, hr, hs, hv, hp']
      · rw [upd_ne _ _ e, h.ini_ u hu]
        have : decide (E.vv i = (u : Int)) = false := by rw [hv]; simp <;> omega
        simp [cnt, this]
  · by_cases e : x = i
    · subst e; exact fun h2 => absurd hs h2
    · exact h.sr x (by omega) h1
theorem Gat.src_step {i s : Nat} {aw : Nat → Int} {ad : Nat → Bool} {ini : Nat → Int} (h : Gat E D i aw ad ini) (hs : E.src i = (s : Int)) (hr : E.rd i = true) (hn : s < E.n) (hw : E.wr s = true) (hv : E.vv s = E.vv i) :
    Gat E D (i + 1) (if D.placed i then aw else upd aw s (aw s + 1)) (upd ad s true) ini := by
  refine ⟨fun j hj => ?_, fun j hj => ?_, fun u hu => ?_, fun x hx h1 => ?_⟩
  · by_cases hp : D.placed i = true
    · rw [if_pos hp, h.aw_ j hj]; simp [cnt, hp]
    · rw [if_neg hp]
      have hp' : D.placed i = false := by simpa using hp
      by_cases e : j = s
      · subst e; rw [upd_self, h.aw_ j hj]; simp [cnt, hr, hs, hp']
      · rw [upd_ne _ _ e, h.aw_ j hj]
        have : decide (E.src i = (j : Int)) = false := by rw [hs]; simp <;> omega
        simp [cnt, this]
  · by_cases e : j = s
    · subst e
      rw [upd_self]
      exact ⟨fun _ => ⟨i, by omega, hr, hs⟩, fun _ => rfl⟩
    · rw [upd_ne _ _ e, h.ad_ j hj]
      constructor
      · rintro ⟨x, hx, r⟩; exact ⟨x, by omega, r⟩
      · rintro ⟨x, hx, r, r2⟩
        by_cases e2 : x = i
        · subst e2; omega
        · exact ⟨x, by omega, r, r2⟩
  · rw [h.ini_ u hu]
    have : decide (E.src i = -1) = false := by rw [hs]; simp <;> omega
    simp [cnt, this]
  · by_cases e : x = i
    · subst e
      intro _
      rw [hs, Int.toNat_natCast]
      exact ⟨⟨by omega, by omega⟩, hw, hv⟩
    · exact h.sr x (by omega) h1

theorem wrap32 {x : Int} (h : i32 x) : IntKind.i32.wrap x = x := by
  unfold i32 at h
  simp [IntKind.wrap, IntKind.bits, IntKind.signed]
  omega

set_option maxHeartbeats 4000000 in
theorem st16 {a : Act} {w : World} {f : Nat → Value} {g1 g3 g4 g5 : Nat} {cof plc : Nat → Int} (hR : Rd W B T E D) (hS : Sb W S T E D) (hSB : S < B) (hW : Below B W w) (hB : B ≤ w.heap.size) (hb : Bs T E S f) (h9 : f 9 = .slice (some ⟨g1, 0, none⟩) E.n E.n) (h18 : f 18 = .slice (some ⟨g3, 0, none⟩) E.n E.n) (h19 : f 19 = .slice (some ⟨g4, 0, none⟩) E.n E.n) (h20 : f 20 = .slice (some ⟨g5, 0, none⟩) E.nv E.nv)
    (l13 : g1 < g3) (l34 : g3 < g4) (l45 : g4 < g5)
    (ho : Own B w g1 E.n 3 (fun j => .int .i64 (cof j))) (ho3 : Own B w g3 E.n 21 (fun _ => .int .i32 0)) (ho4 : Own B w g4 E.n 4 (fun _ => .bool false)) (ho5 : Own B w g5 E.nv 21 (fun _ => .int .i32 0)) (hcp : Cp E D cof plc)
    (hvs : ∀ i, i < E.n → 0 ≤ E.vv i ∧ E.vv i < E.nv) (hD : a.defers = []) (hV : ∀ j, j < 864 → a.tmps[j]? = some (f j))
    (hNext : ∀ (a : Act) (f : Nat → Value) (w' : World) (aw : Nat → Int) (ad : Nat → Bool) (ini : Nat → Int), a.defers = [] → (∀ j, j < 864 → a.tmps[j]? = some (f j)) → Bs T E S f → f 18 = .slice (some ⟨g3, 0, none⟩) E.n E.n → f 19 = .slice (some ⟨g4, 0, none⟩) E.n E.n → f 20 = .slice (some ⟨g5, 0, none⟩) E.nv E.nv →
      Below B W w' → B ≤ w'.heap.size → Own B w' g3 E.n 21 (fun j => .int .i32 (aw j)) → Own B w' g4 E.n 4 (fun j => .bool (ad j)) → Own B w' g5 E.nv 21 (fun j => .int .i32 (ini j)) → Gat E D E.n aw ad ini → Q .normal a w')
    (hRet : ∀ (a : Act) (f : Nat → Value) (w : World), a.defers = [] → (∀ j, j < 864 → a.tmps[j]? = some (f j)) → f 4 = .bool false → Below B W w → ¬ Holds E D mix → Q .ret a w) : Code.wp Try.prog (sub [1, 1, 1, 1, 1, 1, 1, 1, 1, 1, 1, 1, 1, 1, 1, 1, 0] (Try.f7.body.getD .skip)) Q a w := by
  have hfs := fset_at
  obtain ⟨h0, h3, h5, h6, h7⟩ := hb
  have HN := hide hNext
  have HR := hide hRet
  have HO := hide ho
  have HO3 := hide ho3
  have HO4 := hide ho4
  have HO5 := hide ho5
  have HRd := hide hR
  have HS := hide hS
  have HW := hide hW
  have HC := hide hcp
  have HV := hide hvs
  have m1 := hR.m_n
  have m2 := hR.m_v
  clear hNext hRet ho ho3 ho4 ho5 hR hS hW hcp hvs
  conv => arg 2; whnf
  repeat (first
    | (refine wpList_put hD hV ?hd ?_; (case hd => decide); clear hD hV; (try clear a); intro a hD hV)
    | ((first | refine wpList_plain rfl (fun K hK => ?_) | refine wpList_step (fun K hK => ?_)); go_simp; refine hK _ _ ?_; clear hK K)
    | (refine wp_cond_true ?hc ?_; (case hc => simp [Act.eval, hV, hfs]; done))
    | (refine wp_cond_false ?hc ?_; (case hc => simp [Act.eval, hV, hfs]; done))
    | go_step)
  refine wp_loop_f (N := 864) (fun m f w' => ∃ (i : Nat) (aw : Nat → Int) (ad : Nat → Bool) (ini : Nat → Int), i ≤ E.n ∧ m = E.n - i ∧ f 21 = .int .i64 (i : Nat) ∧ Bs T E S f ∧ f 9 = .slice (some ⟨g1, 0, none⟩) E.n E.n ∧ f 18 = .slice (some ⟨g3, 0, none⟩) E.n E.n ∧ f 19 = .slice (some ⟨g4, 0, none⟩) E.n E.n ∧ f 20 = .slice (some ⟨g5, 0, none⟩) E.nv E.nv ∧
    Below B W w' ∧ B ≤ w'.heap.size ∧ Own B w' g1 E.n 3 (fun j => .int .i64 (cof j)) ∧ Own B w' g3 E.n 21 (fun j => .int .i32 (aw j)) ∧ Own B w' g4 E.n 4 (fun j => .bool (ad j)) ∧ Own B w' g5 E.nv 21 (fun j => .int .i32 (ini j)) ∧ Gat E D i aw ad ini) E.n hD hV
    ⟨0, fun _ => 0, fun _ => false, fun _ => 0, by omega, by omega, by simp [hfs], ⟨by simp [hfs, h0], by simp [hfs, h3], by simp [hfs, h5], by simp [hfs, h6], by simp [hfs, h7]⟩, by simp [hfs, h9], by simp [hfs, h18], by simp [hfs, h19], by simp [hfs, h20], HW.out, hB, HO.out, HO3.out, HO4.out, HO5.out, ⟨fun _ _ => rfl, fun _ _ => by simp, fun _ _ => rfl, fun _ h => by omega⟩⟩ ?_
  clear h0 h3 h5 h6 h7 h9 h18 h19 h20 hD hV a f HO HO3 HO4 HO5 HW
  intro m f w' a hD hV ⟨i, aw, ad, ini, hi, hm', h21, hb, h9, h18, h19, h20, hbel, hB', ho, ho3, ho4, ho5, hg⟩ K hK
  obtain ⟨h0, h3, h5, h6, h7⟩ := hb
  have HO := hide ho
  have HO3 := hide ho3
  have HO4 := hide ho4
  have HO5 := hide ho5
  have HB := hide hbel
  have HG := hide hg
  have HK := hide hK
  clear ho ho3 ho4 ho5 hbel hg hK
  by_cases hin : i < E.n
  · have hRw := HRd.out.below HB.out
    have hSw := HS.out.below HB.out hSB
    have on := hRw.on (by omega)
    have o0 := hRw.o0 i hin
    obtain ⟨x1, o1, _⟩ := hRw.o1 i hin
    have o2 := hRw.o2 i hin
    have o3 := hRw.o3 i hin
    obtain ⟨x4, o4, _⟩ := hRw.o4 i hin
    have o5 := hRw.o5 i hin
    clear hRw hSw
    obtain ⟨w1, hw1⟩ : ∃ w1, w'.alloc (.cells #[.int .i32 (E.proc i), .int .i32 x1, .bool (E.wr i), .int .i32 (E.vv i), .string x4, .int .i32 (E.src i)] 42) = w1 := ⟨_, rfl⟩
    have HB1 : Hid (Below B W w1) := hw1 ▸ HB.out.alloc hB' _
    have hB1 : B ≤ w1.heap.size := by rw [← hw1]; simp; omega
    have HO1 : Hid (Own B w1 g1 E.n 3 (fun j => .int .i64 (cof j))) := hw1 ▸ HO.out.alloc _
    have HO31 : Hid (Own B w1 g3 E.n 21 (fun j => .int .i32 (aw j))) := hw1 ▸ HO3.out.alloc _
    have HO41 : Hid (Own B w1 g4 E.n 4 (fun j => .bool (ad j))) := hw1 ▸ HO4.out.alloc _
    have HO51 : Hid (Own B w1 g5 E.nv 21 (fun j => .int .i32 (ini j))) := hw1 ▸ HO5.out.alloc _
    have p0 : w1.cell? ⟨w'.heap.size, 0, none⟩ = some (.int .i32 (E.proc i)) := by rw [← hw1, World.cell?_alloc_new]; rfl
    have p2 : w1.cell? ⟨w'.heap.size, 2, none⟩ = some (.bool (E.wr i)) := by rw [← hw1, World.cell?_alloc_new]; rfl
    have p3 : w1.cell? ⟨w'.heap.size, 3, none⟩ = some (.int .i32 (E.vv i)) := by rw [← hw1, World.cell?_alloc_new]; rfl
    have p5 : w1.cell? ⟨w'.heap.size, 5, none⟩ = some (.int .i32 (E.src i)) := by rw [← hw1, World.cell?_alloc_new]; rfl
    have hG5 : g5 < w'.heap.size := HO5.out.arr.lt
    have hRw := HRd.out.below HB1.out
    have hSw := HS.out.below HB1.out hSB
    have s0 : w1.cell? ⟨S, 0, none⟩ = some (.int .i32 E.only) := hSw 0 (by decide)
    have s4 : w1.cell? ⟨S, 4, none⟩ = some (.slice (T.A 4) E.n (T.cap 4)) := hSw 4 (by decide)
    have n4 := hRw.n4 (by omega)
    have d4 := hRw.d4 i hin
    have c1 := HO1.out.arr.cell hin
    have e4 : IntKind.i64.wrap ((i : Int) + 1) = (i : Int) + 1 := wrap64 (by unfold i64; omega)
    have HRw := hide hRw
    have rs := wrap64' (hRw.r_src i hin)
    have hhas := hide (HC.out.has hin)
    clear hRw hSw HO HO3 HO4 HO5 HB
    by_cases qa : cof i < 0
    · repeat (first
        | (refine wpList_put hD hV ?hd ?_; (case hd => decide); clear hD hV; (try clear a); intro a hD hV)
        | ((first | refine wpList_plain rfl (fun K hK => ?_) | refine wpList_step (fun K hK => ?_)); go_simp; refine hK _ _ ?_; clear hK K)
        | (refine wp_cond_true ?hc ?_; (case hc => simp [Act.eval, hV, hfs]; done))
        | (refine wp_cond_false ?hc ?_; (case hc => simp [Act.eval, hV, hfs]; done))
        | go_step)
      refine HK.out a _ _ (E.n - (i + 1)) hD hV (by omega) ⟨i + 1, aw, ad, ini, by omega, rfl, by simp [hfs], ⟨by simp [hfs, h0], by simp [hfs, h3], by simp [hfs, h5], by simp [hfs, h6], by simp [hfs, h7]⟩, by simp [hfs, h9], by simp [hfs, h18], by simp [hfs, h19], by simp [hfs, h20], HB1.out, hB1, HO1.out, HO31.out, HO41.out, HO51.out, HG.out.skip ?_⟩
      have : ¬ E.has i = true := fun h => by have := hhas.out.1 h; omega
      simp [Env.rd, this]
    have hh : Hid (E.has i = true) := hhas.out.2 (by omega)
    cases qb : E.wr i
    case true =>
      rw [qb] at hw1
      repeat (first
        | (refine wpList_put hD hV ?hd ?_; (case hd => decide); clear hD hV; (try clear a); intro a hD hV)
        | ((first | refine wpList_plain rfl (fun K hK => ?_) | refine wpList_step (fun K hK => ?_)); go_simp; refine hK _ _ ?_; clear hK K)
        | (refine wp_cond_true ?hc ?_; (case hc => simp [Act.eval, hV, hfs]; done))
        | (refine wp_cond_false ?hc ?_; (case hc => simp [Act.eval, hV, hfs]; done))
        | go_step)
      exact HK.out a _ _ (E.n - (i + 1)) hD hV (by omega) ⟨i + 1, aw, ad, ini, by omega, rfl, by simp [hfs], ⟨by simp [hfs, h0], by simp [hfs, h3], by simp [hfs, h5], by simp [hfs, h6], by simp [hfs, h7]⟩, by simp [hfs, h9], by simp [hfs, h18], by simp [hfs, h19], by simp [hfs, h20], HB1.out, hB1, HO1.out, HO31.out, HO41.out, HO51.out, HG.out.skip (by simp [Env.rd, Env.chk, qb])⟩
    rw [qb] at hw1
    have hchk : (¬ 0 ≤ E.only) ∨ (0 ≤ E.only ∧ (E.proc i != E.only) = true) ∨ (0 ≤ E.only ∧ (E.proc i != E.only) = false) := by
      by_cases h1 : 0 ≤ E.only
      · cases h2 : (E.proc i != E.only)
        · exact .inr (.inr ⟨h1, rfl⟩)
        · exact .inr (.inl ⟨h1, rfl⟩)
      · exact .inl h1
    have rest : ∀ (hrd : Hid (E.rd i = true)), True := fun _ => trivial
    clear rest
    rcases hchk with qc | ⟨qc, qd⟩ | ⟨qc, qd⟩
    rotate_left
    · repeat (first
        | (refine wpList_put hD hV ?hd ?_; (case hd => decide); clear hD hV; (try clear a); intro a hD hV)
        | ((first | refine wpList_plain rfl (fun K hK => ?_) | refine wpList_step (fun K hK => ?_)); go_simp; refine hK _ _ ?_; clear hK K)
        | (refine wp_cond_true ?hc ?_; (case hc => simp [Act.eval, hV, hfs]; done))
        | (refine wp_cond_false ?hc ?_; (case hc => simp [Act.eval, hV, hfs]; done))
        | go_step)
      refine HK.out a _ _ (E.n - (i + 1)) hD hV (by omega) ⟨i + 1, aw, ad, ini, by omega, rfl, by simp [hfs], ⟨by simp [hfs, h0], by simp [hfs, h3], by simp [hfs, h5], by simp [hfs, h6], by simp [hfs, h7]⟩, by simp [hfs, h9], by simp [hfs, h18], by simp [hfs, h19], by simp [hfs, h20], HB1.out, hB1, HO1.out, HO31.out, HO41.out, HO51.out, HG.out.skip ?_⟩
      have : E.proc i ≠ E.only := by simpa using qd
      simp [Env.rd, Env.chk, this]
      omega
    all_goals (
      have hrd : Hid (E.rd i = true) := by
        show E.rd i = true
        have h1 := hh.out
        simp [Env.rd, Env.chk, h1, qb]
        first | (left; omega) | (right; simpa using qd)
      cases qe : (E.src i == -1)
      case true =>
        have hsrc : Hid (E.src i = -1) := hide (by simpa using qe)
        obtain ⟨v, hv⟩ := Int.eq_ofNat_of_zero_le (HV.out i hin).1
        have hvn : v < E.nv := by have := (HV.out i hin).2; omega
        have HVV := hide hv
        rw [hv] at p3
        have c5 := HO51.out.arr.cell hvn
        have f5 := HO51.out.arr.frozen v
        have hst := hide (HG.out.ini_step hsrc.out hrd.out HVV.out)
        have e5 : IntKind.i32.wrap (ini v + 1) = ini v + 1 := wrap32 (by have h1 := HG.out.ini_ v hvn; have := cnt_le i (fun x => E.rd x && decide (E.src x = -1) && decide (E.vv x = (v : Int)) && !D.placed x); unfold i32; omega)
        clear hv
        cases qf : D.placed i
        case true =>
          repeat (first
            | (refine wpList_put hD hV ?hd ?_; (case hd => decide); clear hD hV; (try clear a); intro a hD hV)
            | ((first | refine wpList_plain rfl (fun K hK => ?_) | refine wpList_step (fun K hK => ?_)); go_simp; refine hK _ _ ?_; clear hK K)
            | (refine wp_cond_true ?hc ?_; (case hc => simp [Act.eval, hV, hfs]; done))
            | (refine wp_cond_false ?hc ?_; (case hc => simp [Act.eval, hV, hfs]; done))
            | go_step)
          refine HK.out a _ _ (E.n - (i + 1)) hD hV (by omega) ⟨i + 1, aw, ad, ini, by omega, rfl, by simp [hfs], ⟨by simp [hfs, h0], by simp [hfs, h3], by simp [hfs, h5], by simp [hfs, h6], by simp [hfs, h7]⟩, by simp [hfs, h9], by simp [hfs, h18], by simp [hfs, h19], by simp [hfs, h20], HB1.out, hB1, HO1.out, HO31.out, HO41.out, HO51.out, ?_⟩
          have := hst.out
          rw [qf, if_pos rfl] at this
          exact this
        case false =>
          repeat (first
            | (refine wpList_put hD hV ?hd ?_; (case hd => decide); clear hD hV; (try clear a); intro a hD hV)
            | ((first | refine wpList_plain rfl (fun K hK => ?_) | refine wpList_step (fun K hK => ?_)); go_simp; refine hK _ _ ?_; clear hK K)
            | (refine wp_cond_true ?hc ?_; (case hc => simp [Act.eval, hV, hfs]; done))
            | (refine wp_cond_false ?hc ?_; (case hc => simp [Act.eval, hV, hfs]; done))
            | go_step)
          refine HK.out a _ _ (E.n - (i + 1)) hD hV (by omega) ⟨i + 1, aw, ad, upd ini v (ini v + 1), by omega, rfl, by simp [hfs], ⟨by simp [hfs, h0], by simp [hfs, h3], by simp [hfs, h5], by simp [hfs, h6], by simp [hfs, h7]⟩, by simp [hfs, h9], by simp [hfs, h18], by simp [hfs, h19], by simp [hfs, h20], HB1.out.setCell HO51.out.ge _, by simpa using hB1, HO1.out.far (by show g1 ≠ g5; omega) _, HO31.out.far (by show g3 ≠ g5; omega) _, HO41.out.far (by show g4 ≠ g5; omega) _, (HO51.out.set hvn _).congr (fun j hj => by unfold fset upd; split <;> rfl), ?_⟩
          have := hst.out
          rw [qf, if_neg (by simp)] at this
          exact this
      case false =>
        have hsrc : Hid (E.src i ≠ -1) := hide (by simpa using qe)
        by_cases q1 : E.src i < 0
        · repeat (first
            | (refine wpList_put hD hV ?hd ?_; (case hd => decide); clear hD hV; (try clear a); intro a hD hV)
            | ((first | refine wpList_plain rfl (fun K hK => ?_) | refine wpList_step (fun K hK => ?_)); go_simp; refine hK _ _ ?_; clear hK K)
            | (refine wp_cond_true ?hc ?_; (case hc => simp [Act.eval, hV, hfs]; done))
            | (refine wp_cond_false ?hc ?_; (case hc => simp [Act.eval, hV, hfs]; done))
            | go_step)
          refine wp_region_quiet_lit (by kernel_rfl) (by kernel_rfl) ?_
          repeat (first
            | (refine wpQuiet_put hD hV ?hd ?_; (case hd => decide); clear hD hV; (try clear a); intro a hD hV)
            | (refine wpQuiet_step (fun K hK => ?_); go_simp; refine hK _ ?_; clear hK K))
          refine wpQuiet_nil ?_
          intro w' hw'
          obtain ⟨nq, hw''⟩ := hw'
          subst hw''
          repeat (first
            | (refine wpList_put hD hV ?hd ?_; (case hd => decide); clear hD hV; (try clear a); intro a hD hV)
            | ((first | refine wpList_plain rfl (fun K hK => ?_) | refine wpList_step (fun K hK => ?_)); go_simp; refine hK _ _ ?_; clear hK K)
            | (refine wp_cond_true ?hc ?_; (case hc => simp [Act.eval, hV, hfs]; done))
            | (refine wp_cond_false ?hc ?_; (case hc => simp [Act.eval, hV, hfs]; done))
            | go_step)
          exact HR.out a _ _ hD hV (by simp [hfs]) (bdrewN HB1.out _) (fun h => by have := (h.sr i hin hrd.out hsrc.out).1; omega)
        by_cases q2 : (E.n : Int) ≤ E.src i
        · repeat (first
            | (refine wpList_put hD hV ?hd ?_; (case hd => decide); clear hD hV; (try clear a); intro a hD hV)
            | ((first | refine wpList_plain rfl (fun K hK => ?_) | refine wpList_step (fun K hK => ?_)); go_simp; refine hK _ _ ?_; clear hK K)
            | (refine wp_cond_true ?hc ?_; (case hc => simp [Act.eval, hV, hfs]; done))
            | (refine wp_cond_false ?hc ?_; (case hc => simp [Act.eval, hV, hfs]; done))
            | go_step)
          refine wp_region_quiet_lit (by kernel_rfl) (by kernel_rfl) ?_
          repeat (first
            | (refine wpQuiet_put hD hV ?hd ?_; (case hd => decide); clear hD hV; (try clear a); intro a hD hV)
            | (refine wpQuiet_step (fun K hK => ?_); go_simp; refine hK _ ?_; clear hK K))
          refine wpQuiet_nil ?_
          intro w' hw'
          obtain ⟨nq, hw''⟩ := hw'
          subst hw''
          repeat (first
            | (refine wpList_put hD hV ?hd ?_; (case hd => decide); clear hD hV; (try clear a); intro a hD hV)
            | ((first | refine wpList_plain rfl (fun K hK => ?_) | refine wpList_step (fun K hK => ?_)); go_simp; refine hK _ _ ?_; clear hK K)
            | (refine wp_cond_true ?hc ?_; (case hc => simp [Act.eval, hV, hfs]; done))
            | (refine wp_cond_false ?hc ?_; (case hc => simp [Act.eval, hV, hfs]; done))
            | go_step)
          exact HR.out a _ _ hD hV (by simp [hfs]) (bdrewN HB1.out _) (fun h => by have := (h.sr i hin hrd.out hsrc.out).1; omega)
        obtain ⟨s, hs⟩ := Int.eq_ofNat_of_zero_le (show 0 ≤ E.src i by omega)
        have hsn : s < E.n := by omega
        have HSR := hide hs
        rw [hs] at p5 rs qe
        have q3 : ¬ (s : Int) < 0 := by omega
        have q4 : ¬ (E.n : Int) ≤ (s : Int) := by omega
        have t2 := HRw.out.o2 s hsn
        have t3 := HRw.out.o3 s hsn
        clear hs q1 q2
        cases q5 : E.wr s
        case false =>
          repeat (first
            | (refine wpList_put hD hV ?hd ?_; (case hd => decide); clear hD hV; (try clear a); intro a hD hV)
            | ((first | refine wpList_plain rfl (fun K hK => ?_) | refine wpList_step (fun K hK => ?_)); go_simp; refine hK _ _ ?_; clear hK K)
            | (refine wp_cond_true ?hc ?_; (case hc => simp [Act.eval, hV, hfs]; done))
            | (refine wp_cond_false ?hc ?_; (case hc => simp [Act.eval, hV, hfs]; done))
            | go_step)
          refine wp_region_quiet_lit (by kernel_rfl) (by kernel_rfl) ?_
          repeat (first
            | (refine wpQuiet_put hD hV ?hd ?_; (case hd => decide); clear hD hV; (try clear a); intro a hD hV)
            | (refine wpQuiet_step (fun K hK => ?_); go_simp; refine hK _ ?_; clear hK K))
          refine wpQuiet_nil ?_
          intro w' hw'
          obtain ⟨nq, hw''⟩ := hw'
          subst hw''
          repeat (first
            | (refine wpList_put hD hV ?hd ?_; (case hd => decide); clear hD hV; (try clear a); intro a hD hV)
            | ((first | refine wpList_plain rfl (fun K hK => ?_) | refine wpList_step (fun K hK => ?_)); go_simp; refine hK _ _ ?_; clear hK K)
            | (refine wp_cond_true ?hc ?_; (case hc => simp [Act.eval, hV, hfs]; done))
            | (refine wp_cond_false ?hc ?_; (case hc => simp [Act.eval, hV, hfs]; done))
            | go_step)
          exact HR.out a _ _ hD hV (by simp [hfs]) (bdrewN HB1.out _) (fun h => by have := (h.sr i hin hrd.out hsrc.out).2.1; rw [HSR.out, Int.toNat_natCast, q5] at this; cases this)
        case true =>
          cases q6 : (E.vv s != E.vv i)
          case true =>
            repeat (first
              | (refine wpList_put hD hV ?hd ?_; (case hd => decide); clear hD hV; (try clear a); intro a hD hV)
              | ((first | refine wpList_plain rfl (fun K hK => ?_) | refine wpList_step (fun K hK => ?_)); go_simp; refine hK _ _ ?_; clear hK K)
              | (refine wp_cond_true ?hc ?_; (case hc => simp [Act.eval, hV, hfs]; done))
              | (refine wp_cond_false ?hc ?_; (case hc => simp [Act.eval, hV, hfs]; done))
              | go_step)
            refine wp_region_quiet_lit (by kernel_rfl) (by kernel_rfl) ?_
            repeat (first
              | (refine wpQuiet_put hD hV ?hd ?_; (case hd => decide); clear hD hV; (try clear a); intro a hD hV)
              | (refine wpQuiet_step (fun K hK => ?_); go_simp; refine hK _ ?_; clear hK K))
            refine wpQuiet_nil ?_
            intro w' hw'
            obtain ⟨nq, hw''⟩ := hw'
            subst hw''
            repeat (first
              | (refine wpList_put hD hV ?hd ?_; (case hd => decide); clear hD hV; (try clear a); intro a hD hV)
              | ((first | refine wpList_plain rfl (fun K hK => ?_) | refine wpList_step (fun K hK => ?_)); go_simp; refine hK _ _ ?_; clear hK K)
              | (refine wp_cond_true ?hc ?_; (case hc => simp [Act.eval, hV, hfs]; done))
              | (refine wp_cond_false ?hc ?_; (case hc => simp [Act.eval, hV, hfs]; done))
              | go_step)
            exact HR.out a _ _ hD hV (by simp [hfs]) (bdrewN HB1.out _) (fun h => by have := (h.sr i hin hrd.out hsrc.out).2.2; rw [HSR.out, Int.toNat_natCast] at this; simp [this] at q6)
          case false =>
            have hvv : Hid (E.vv s = E.vv i) := hide (by simpa using q6)
            have hst := hide (HG.out.src_step HSR.out hrd.out hsn q5 hvv.out)
            have c4 := HO41.out.arr.cell hsn
            have f4 := HO41.out.arr.frozen s
            have c3 : ∀ q v, ((w1.drewN q).setCell ⟨g4, s, none⟩ v).cell? ⟨g3, s, none⟩ = some (.int .i32 (aw s)) := fun q v => ((HO31.out.drewN q).far (p := ⟨g4, s, none⟩) (by show g3 ≠ g4; omega) v).arr.cell hsn
            have f3 : ∀ q v, ((w1.drewN q).setCell ⟨g4, s, none⟩ v).frozen? ⟨g3, s, none⟩ = false := fun q v => ((HO31.out.drewN q).far (p := ⟨g4, s, none⟩) (by show g3 ≠ g4; omega) v).arr.frozen s
            have y4 : ∀ q v, ((w1.drewN q).setCell ⟨g4, s, none⟩ v).cell? ⟨S, 4, none⟩ = some (.slice (T.A 4) E.n (T.cap 4)) := fun q v => by rw [cell_far _ _ _ _ (by show g4 ≠ S; have := HO41.out.ge; omega)]; exact s4
            have y5 : ∀ q v, ((w1.drewN q).setCell ⟨g4, s, none⟩ v).cell? ⟨T.b 4, T.o 4 + i, none⟩ = some (.bool (D.placed i)) := fun q v => by rw [cell_far _ _ _ _ (by show g4 ≠ T.b 4; have := HO41.out.ge; have := HRw.out.b4 (by omega); omega)]; exact d4
            have y6 : ∀ q v, ((w1.drewN q).setCell ⟨g4, s, none⟩ v).cell? ⟨w'.heap.size, 5, none⟩ = some (.int .i32 (s : Int)) := fun q v => by rw [cell_far _ _ _ _ (by show g4 ≠ w'.heap.size; omega)]; exact p5
            have e5 : IntKind.i32.wrap (aw s + 1) = aw s + 1 := wrap32 (by have h1 := HG.out.aw_ s hsn; have := cnt_le i (fun x => E.rd x && decide (E.src x = (s : Int)) && !D.placed x); unfold i32; omega)
            cases qf : D.placed i
            case true =>
              repeat (first
                | (refine wpList_put hD hV ?hd ?_; (case hd => decide); clear hD hV; (try clear a); intro a hD hV)
                | ((first | refine wpList_plain rfl (fun K hK => ?_) | refine wpList_step (fun K hK => ?_)); go_simp; refine hK _ _ ?_; clear hK K)
                | (refine wp_cond_true ?hc ?_; (case hc => simp [Act.eval, hV, hfs]; done))
                | (refine wp_cond_false ?hc ?_; (case hc => simp [Act.eval, hV, hfs]; done))
                | go_step)
              refine wp_region_quiet_lit (by kernel_rfl) (by kernel_rfl) ?_
              repeat (first
                | (refine wpQuiet_put hD hV ?hd ?_; (case hd => decide); clear hD hV; (try clear a); intro a hD hV)
                | (refine wpQuiet_step (fun K hK => ?_); go_simp; refine hK _ ?_; clear hK K))
              refine wpQuiet_nil ?_
              intro w' hw'
              obtain ⟨nq, hw''⟩ := hw'
              subst hw''
              repeat (first
                | (refine wpList_put hD hV ?hd ?_; (case hd => decide); clear hD hV; (try clear a); intro a hD hV)
                | ((first | refine wpList_plain rfl (fun K hK => ?_) | refine wpList_step (fun K hK => ?_)); go_simp; refine hK _ _ ?_; clear hK K)
                | (refine wp_cond_true ?hc ?_; (case hc => simp [Act.eval, hV, hfs]; done))
                | (refine wp_cond_false ?hc ?_; (case hc => simp [Act.eval, hV, hfs]; done))
                | go_step)
              refine HK.out a _ _ (E.n - (i + 1)) hD hV (by omega) ⟨i + 1, aw, upd ad s true, ini, by omega, rfl, by simp [hfs], ⟨by simp [hfs, h0], by simp [hfs, h3], by simp [hfs, h5], by simp [hfs, h6], by simp [hfs, h7]⟩, by simp [hfs, h9], by simp [hfs, h18], by simp [hfs, h19], by simp [hfs, h20], (bdrewN HB1.out _).setCell HO41.out.ge _, by simpa using hB1, (HO1.out.drewN _).far (by show g1 ≠ g4; omega) _, (HO31.out.drewN _).far (by show g3 ≠ g4; omega) _, ((HO41.out.drewN _).set hsn _).congr (fun j hj => by unfold fset upd; split <;> rfl), (HO51.out.drewN _).far (by show g5 ≠ g4; omega) _, ?_⟩
              have := hst.out
              rw [qf, if_pos rfl] at this
              exact this
            case false =>
              repeat (first
                | (refine wpList_put hD hV ?hd ?_; (case hd => decide); clear hD hV; (try clear a); intro a hD hV)
                | ((first | refine wpList_plain rfl (fun K hK => ?_) | refine wpList_step (fun K hK => ?_)); go_simp; refine hK _ _ ?_; clear hK K)
                | (refine wp_cond_true ?hc ?_; (case hc => simp [Act.eval, hV, hfs]; done))
                | (refine wp_cond_false ?hc ?_; (case hc => simp [Act.eval, hV, hfs]; done))
                | go_step)
              refine wp_region_quiet_lit (by kernel_rfl) (by kernel_rfl) ?_
              repeat (first
                | (refine wpQuiet_put hD hV ?hd ?_; (case hd => decide); clear hD hV; (try clear a); intro a hD hV)
                | (refine wpQuiet_step (fun K hK => ?_); go_simp; refine hK _ ?_; clear hK K))
              refine wpQuiet_nil ?_
              intro w' hw'
              obtain ⟨nq, hw''⟩ := hw'
              subst hw''
              repeat (first
                | (refine wpList_put hD hV ?hd ?_; (case hd => decide); clear hD hV; (try clear a); intro a hD hV)
                | ((first | refine wpList_plain rfl (fun K hK => ?_) | refine wpList_step (fun K hK => ?_)); go_simp; refine hK _ _ ?_; clear hK K)
                | (refine wp_cond_true ?hc ?_; (case hc => simp [Act.eval, hV, hfs]; done))
                | (refine wp_cond_false ?hc ?_; (case hc => simp [Act.eval, hV, hfs]; done))
                | go_step)
              refine HK.out a _ _ (E.n - (i + 1)) hD hV (by omega) ⟨i + 1, upd aw s (aw s + 1), upd ad s true, ini, by omega, rfl, by simp [hfs], ⟨by simp [hfs, h0], by simp [hfs, h3], by simp [hfs, h5], by simp [hfs, h6], by simp [hfs, h7]⟩, by simp [hfs, h9], by simp [hfs, h18], by simp [hfs, h19], by simp [hfs, h20], ((bdrewN HB1.out _).setCell HO41.out.ge _).setCell HO31.out.ge _, by simpa using hB1, ((HO1.out.drewN _).far (by show g1 ≠ g4; omega) _).far (by show g1 ≠ g3; omega) _, (((HO31.out.drewN _).far (by show g3 ≠ g4; omega) _).set hsn _).congr (fun j hj => by unfold fset upd; split <;> rfl), (((HO41.out.drewN _).set hsn _).far (by show g4 ≠ g3; omega) _).congr (fun j hj => by unfold fset upd; split <;> rfl), ((HO51.out.drewN _).far (by show g5 ≠ g4; omega) _).far (by show g5 ≠ g3; omega) _, ?_⟩
              have := hst.out
              rw [qf, if_neg (by simp)] at this
              exact this)
  · repeat (first
      | (refine wpList_put hD hV ?hd ?_; (case hd => decide); clear hD hV; (try clear a); intro a hD hV)
      | ((first | refine wpList_plain rfl (fun K hK => ?_) | refine wpList_step (fun K hK => ?_)); go_simp; refine hK _ _ ?_; clear hK K)
      | (refine wp_cond_true ?hc ?_; (case hc => simp [Act.eval, hV, hfs]; done))
      | (refine wp_cond_false ?hc ?_; (case hc => simp [Act.eval, hV, hfs]; done))
      | go_step)
    have hie : i = E.n := by omega
    subst hie
    exact HN.out a _ _ aw ad ini hD hV ⟨by simp [hfs, h0], by simp [hfs, h3], by simp [hfs, h5], by simp [hfs, h6], by simp [hfs, h7]⟩ (by simp [hfs, h18]) (by simp [hfs, h19]) (by simp [hfs, h20]) HB.out hB' HO3.out HO4.out HO5.out HG.out
end
end Go.Proofs.Qxb6616080a
