import Derived.Test.Qxb6616080aF7h
namespace Go.Proofs.Qxb6616080a
open Go.RowKit
set_option linter.unusedVariables false
set_option linter.unusedSimpArgs false
set_option maxRecDepth 100000

/-- The way from (p, cur) along L to (p', cur'). -/
def Path (nx pv : Nat → Int) : Int → Int → List Nat → Int → Int → Prop
  | p, cur, [], p', cur' => p' = p ∧ cur' = cur
  | p, cur, c :: L, p', cur' => cur = (c : Int) ∧ pv c = p ∧ Path nx pv (c : Int) (nx c) L p' cur'
theorem Path.snoc {nx pv : Nat → Int} : ∀ {L : List Nat} {p cur p' : Int} {c : Nat}, Path nx pv p cur L p' (c : Int) → pv c = p' → Path nx pv p cur (L ++ [c]) (c : Int) (nx c)
  | [], p, cur, p', c, ⟨h1, h2⟩, hp => ⟨h2.symm, by rw [hp, h1], rfl, rfl⟩
  | d :: L, p, cur, p', c, ⟨h1, h2, h3⟩, hp => ⟨h1, h2, Path.snoc h3 hp⟩
theorem Path.seg {nx pv : Nat → Int} : ∀ {L : List Nat} {p cur p' : Int}, Path nx pv p cur L p' (-1) → Seg nx pv p cur L
  | [], _, _, _, ⟨_, h2⟩ => h2.symm
  | d :: L, p, cur, p', ⟨h1, h2, h3⟩ => ⟨h1, h2, Path.seg h3⟩
theorem Path.rest {nx pv : Nat → Int} : ∀ {L M : List Nat} {p cur p' cur' : Int}, Path nx pv p cur L p' cur' → Seg nx pv p cur M → ∃ R, M = L ++ R ∧ Seg nx pv p' cur' R
  | [], M, _, _, _, _, ⟨h1, h2⟩, hs => ⟨M, rfl, by rw [h1, h2]; exact hs⟩
  | d :: L, [], _, _, _, _, ⟨h1, _, _⟩, hs => by
    have : _ = (-1 : Int) := hs
    omega
  | d :: L, e :: M, _, _, _, _, ⟨h1, h2, h3⟩, ⟨k1, k2, k3⟩ => by
    have : d = e := by omega
    subst this
    obtain ⟨R, hR, hS⟩ := Path.rest h3 k3
    exact ⟨R, by rw [hR]; rfl, hS⟩
theorem Seg.uniq {nx pv : Nat → Int} : ∀ {L M : List Nat} {p cur : Int}, Seg nx pv p cur L → Seg nx pv p cur M → L = M
  | [], [], _, _, _, _ => rfl
  | [], e :: M, _, _, h, ⟨k1, _, _⟩ => by have : _ = (-1 : Int) := h; omega
  | d :: L, [], _, _, ⟨k1, _, _⟩, h => by have : _ = (-1 : Int) := h; omega
  | d :: L, e :: M, _, _, ⟨h1, _, h3⟩, ⟨k1, _, k3⟩ => by
    have : d = e := by omega
    subst this
    rw [Seg.uniq h3 k3]

/-- The lists of the variables before v have been gone along. -/
structure LisTo (nc : Nat) (K : Links) (v : Nat) (L : Nat → List Nat) (lf : Nat → Bool) : Prop where
  seg : ∀ v', v' < v → Seg K.nx K.pv (-1) (K.first v') (L v')
  nodup : ∀ v', v' < v → (L v').Nodup
  mem : ∀ v', v' < v → ∀ c ∈ L v', c < nc ∧ K.of c = (v' : Int)
  lf : ∀ c, c < nc → (lf c = true ↔ ∃ v', v' < v ∧ c ∈ L v')
/-- In v's own list. -/
structure LisIn (nc : Nat) (K : Links) (v : Nat) (L : Nat → List Nat) (lf : Nat → Bool) (done : List Nat) (p cur : Int) : Prop where
  path : Path K.nx K.pv (-1) (K.first v) done p cur
  nodup : done.Nodup
  mem : ∀ c ∈ done, c < nc ∧ K.of c = (v : Int)
  lf : ∀ c, c < nc → (lf c = true ↔ (∃ v', v' < v ∧ c ∈ L v') ∨ c ∈ done)

section
variable {Q : Exit → Act → World → Prop} {W : World} {T : Ad} {E : Env} {D : Dyn} {B S : Nat} {mix : Nat → Nat}

theorem LisIn.next (h : Holds E D mix) {v : Nat} (hv : v < E.nv) {L : Nat → List Nat} {lf : Nat → Bool} {done : List Nat} {p cur : Int} (hL : LisTo E.nc D.K v L (fun _ => false) ∨ ∀ v', v' < v → ∀ c ∈ L v', D.K.of c = (v' : Int)) (hi : LisIn E.nc D.K v L lf done p cur) (hne : cur ≠ -1) :
    ∃ c : Nat, cur = (c : Int) ∧ c < E.nc ∧ lf c = false ∧ D.K.of c = (v : Int) ∧ D.K.pv c = p := by
  obtain ⟨L', hL'⟩ := h.ul
  obtain ⟨R, hR, hS⟩ := hi.path.rest (hL'.seg v hv)
  rcases hS.cur with ⟨e, _⟩ | ⟨c, R', rfl, e⟩
  · exact absurd e hne
  · have hm := hL'.mem v hv c (by rw [hR]; simp)
    have hn := hL'.nodup v hv
    rw [hR] at hn
    have hcd : c ∉ done := fun hc => by
      rw [List.nodup_append] at hn
      exact hn.2.2 c hc c (by simp) rfl
    refine ⟨c, e, hm.1, ?_, hm.2, hS.2.1⟩
    cases hl : lf c
    · rfl
    · rcases (hi.lf c hm.1).1 hl with ⟨v', hv', hc⟩ | hc
      · rcases hL with hL | hL
        · have := (hL.mem v' hv' c hc).2
          omega
        · have := hL v' hv' c hc
          omega
      · exact absurd hc hcd
theorem LisIn.step {v c : Nat} {L : Nat → List Nat} {lf : Nat → Bool} {done : List Nat} {p : Int} (hi : LisIn E.nc D.K v L lf done p (c : Int)) (hc : c < E.nc) (hl : lf c = false) (ho : D.K.of c = (v : Int)) (hp : D.K.pv c = p) :
    LisIn E.nc D.K v L (upd lf c true) (done ++ [c]) (c : Int) (D.K.nx c) := by
  have hnd : c ∉ done := fun h => by have := (hi.lf c hc).2 (.inr h); rw [hl] at this; cases this
  refine ⟨hi.path.snoc hp, ?_, fun x hx => ?_, fun x hx => ?_⟩
  · rw [List.nodup_append]
    refine ⟨hi.nodup, by simp, fun a ha b hb => ?_⟩
    rw [List.mem_singleton] at hb
    subst hb
    intro e
    subst e
    exact hnd ha
  · rcases List.mem_append.1 hx with h | h
    · exact hi.mem x h
    · rw [List.mem_singleton] at h; subst h; exact ⟨hc, ho⟩
  · by_cases e : x = c
    · subst e; rw [upd_self]; simp
    · rw [upd_ne _ _ e, hi.lf x hx]; simp [e]
theorem LisIn.finish {v : Nat} {L : Nat → List Nat} {lf0 lf : Nat → Bool} {done : List Nat} {p : Int} (hL : LisTo E.nc D.K v L lf0) (hi : LisIn E.nc D.K v L lf done p (-1)) : LisTo E.nc D.K (v + 1) (fun u => if u = v then done else L u) lf := by
  refine ⟨fun u hu => ?_, fun u hu => ?_, fun u hu => ?_, fun c hc => ?_⟩
  · by_cases e : u = v
    · subst e; rw [if_pos rfl]; exact hi.path.seg
    · rw [if_neg e]; exact hL.seg u (by omega)
  · by_cases e : u = v
    · subst e; rw [if_pos rfl]; exact hi.nodup
    · rw [if_neg e]; exact hL.nodup u (by omega)
  · by_cases e : u = v
    · subst e; rw [if_pos rfl]; exact hi.mem
    · rw [if_neg e]; exact hL.mem u (by omega)
  · rw [hi.lf c hc]
    constructor
    · rintro (⟨v', h1, h2⟩ | h)
      · exact ⟨v', by omega, by rw [if_neg (by omega)]; exact h2⟩
      · exact ⟨v, by omega, by rw [if_pos rfl]; exact h⟩
    · rintro ⟨v', h1, h2⟩
      by_cases e : v' = v
      · subst e; rw [if_pos rfl] at h2; exact .inr h2
      · rw [if_neg e] at h2; exact .inl ⟨v', by omega, h2⟩

set_option maxHeartbeats 4000000 in
theorem st29 {a : Act} {w : World} {f : Nat → Value} {g9 g10 : Nat} {v9 : Nat → Value} (hR : Rd W B T E D) (hS : Sb W S T E D) (hSB : S < B) (hW : Below B W w) (hB : B ≤ w.heap.size) (hb : Bs T E S f) (h38 : f 38 = .slice (some ⟨g9, 0, none⟩) E.nc E.nc) (h42 : f 42 = .slice (some ⟨g10, 0, none⟩) E.nc E.nc) (l910 : g9 < g10) (ho9 : Own B w g9 E.nc 4 v9) (ho : Own B w g10 E.nc 4 (fun _ => .bool false)) (hD : a.defers = []) (hV : ∀ j, j < 864 → a.tmps[j]? = some (f j))
    (hNext : ∀ (a : Act) (f : Nat → Value) (w' : World) (L : Nat → List Nat) (lf : Nat → Bool), a.defers = [] → (∀ j, j < 864 → a.tmps[j]? = some (f j)) → Bs T E S f → f 38 = .slice (some ⟨g9, 0, none⟩) E.nc E.nc → f 42 = .slice (some ⟨g10, 0, none⟩) E.nc E.nc → Below B W w' → B ≤ w'.heap.size → Own B w' g9 E.nc 4 v9 → Own B w' g10 E.nc 4 (fun c => .bool (lf c)) →
      LisTo E.nc D.K E.nv L lf → Q .normal a w')
    (hRet : ∀ (a : Act) (f : Nat → Value) (w : World), a.defers = [] → (∀ j, j < 864 → a.tmps[j]? = some (f j)) → f 4 = .bool false → Below B W w → ¬ Holds E D mix → Q .ret a w) : Code.wp Try.prog (sub [1, 1, 1, 1, 1, 1, 1, 1, 1, 1, 1, 1, 1, 1, 1, 1, 1, 1, 1, 1, 1, 1, 1, 1, 1, 1, 1, 1, 1, 0] (Try.f7.body.getD .skip)) Q a w := by
  have hfs := fset_at
  obtain ⟨h0, h3, h5, h6, h7⟩ := hb
  have HN := hide hNext
  have HR := hide hRet
  have HO := hide ho
  have HO9 := hide ho9
  have HRd := hide hR
  have HS := hide hS
  have HW := hide hW
  have m2 := hR.m_c
  have m1 := hR.m_v
  clear hNext hRet ho ho9 hR hS hW
  conv => arg 2; whnf
  repeat (first
    | (refine wpList_put hD hV ?hd ?_; (case hd => decide); clear hD hV; (try clear a); intro a hD hV)
    | ((first | refine wpList_plain rfl (fun K hK => ?_) | refine wpList_step (fun K hK => ?_)); go_simp; refine hK _ _ ?_; clear hK K)
    | (refine wp_cond_true ?hc ?_; (case hc => simp [Act.eval, hV, hfs]; done))
    | (refine wp_cond_false ?hc ?_; (case hc => simp [Act.eval, hV, hfs]; done))
    | go_step)
  refine wp_loop_f (N := 864) (fun m f w' => ∃ (v : Nat) (L : Nat → List Nat) (lf : Nat → Bool), v ≤ E.nv ∧ m = E.nv - v ∧ f 43 = .int .i64 (v : Nat) ∧ Bs T E S f ∧ f 38 = .slice (some ⟨g9, 0, none⟩) E.nc E.nc ∧ f 42 = .slice (some ⟨g10, 0, none⟩) E.nc E.nc ∧ Below B W w' ∧ B ≤ w'.heap.size ∧ Own B w' g9 E.nc 4 v9 ∧
    Own B w' g10 E.nc 4 (fun c => .bool (lf c)) ∧ LisTo E.nc D.K v L lf) E.nv hD hV
    ⟨0, fun _ => [], fun _ => false, by omega, by omega, by simp [hfs], ⟨by simp [hfs, h0], by simp [hfs, h3], by simp [hfs, h5], by simp [hfs, h6], by simp [hfs, h7]⟩, by simp [hfs, h38], by simp [hfs, h42], HW.out, hB, HO9.out, HO.out, ⟨fun _ h => by omega, fun _ h => by omega, fun _ h => by omega, fun _ _ => by simp⟩⟩ ?_
  clear h0 h3 h5 h6 h7 h38 h42 hD hV a f HO HO9 HW
  intro m f w' a hD hV ⟨v, L, lf0, hv, hm', h43, hb, h38, h42, hbel, hB', ho9, ho, hl⟩ K hK
  obtain ⟨h0, h3, h5, h6, h7⟩ := hb
  have HO := hide ho
  have HO9 := hide ho9
  have HB := hide hbel
  have HK := hide hK
  have HL := hide hl
  clear ho ho9 hbel hK hl
  by_cases hvn : v < E.nv
  · have s12 : w'.cell? ⟨S, 12, none⟩ = some (.slice (T.A 12) E.nv (T.cap 12)) := HS.out.below HB.out hSB 12 (by decide)
    have n12 := HRd.out.n12 (by omega)
    have d12 := (HRd.out.below HB.out).d12 v hvn
    have e4 : IntKind.i64.wrap ((v : Int) + 1) = (v : Int) + 1 := wrap64 (by unfold i64; omega)
    repeat (first
      | (refine wpList_put hD hV ?hd ?_; (case hd => decide); clear hD hV; (try clear a); intro a hD hV)
      | ((first | refine wpList_plain rfl (fun K hK => ?_) | refine wpList_step (fun K hK => ?_)); go_simp; refine hK _ _ ?_; clear hK K)
      | (refine wp_cond_true ?hc ?_; (case hc => simp [Act.eval, hV, hfs]; done))
      | (refine wp_cond_false ?hc ?_; (case hc => simp [Act.eval, hV, hfs]; done))
      | go_step)
    refine wp_loop_f (N := 864) (fun m f w' => ∃ (lf : Nat → Bool) (done : List Nat) (p cur : Int), m = E.nc - cnt E.nc lf ∧ f 44 = .int .i32 p ∧ f 45 = .int .i32 cur ∧ i32 cur ∧ f 43 = .int .i64 (v : Nat) ∧ Bs T E S f ∧ f 38 = .slice (some ⟨g9, 0, none⟩) E.nc E.nc ∧ f 42 = .slice (some ⟨g10, 0, none⟩) E.nc E.nc ∧ Below B W w' ∧ B ≤ w'.heap.size ∧ Own B w' g9 E.nc 4 v9 ∧
      Own B w' g10 E.nc 4 (fun c => .bool (lf c)) ∧ LisIn E.nc D.K v L lf done p cur) _ hD hV
      ⟨lf0, [], -1, D.K.first v, rfl, by simp [hfs], by simp [hfs], HRd.out.r_f v hvn, by simp [hfs, h43], ⟨by simp [hfs, h0], by simp [hfs, h3], by simp [hfs, h5], by simp [hfs, h6], by simp [hfs, h7]⟩, by simp [hfs, h38], by simp [hfs, h42], HB.out, hB', HO9.out, HO.out, ⟨⟨rfl, rfl⟩, by simp, (fun c hc => by cases hc), fun c hc => by rw [HL.out.lf c hc]; simp⟩⟩ ?_
    clear h0 h3 h5 h6 h7 h38 h42 h43 hD hV a f s12 n12 d12 HO HO9 HB
    intro m2 f w2 a hD hV ⟨lf, done, p, cur, hm2, h44, h45, hcr, h43, hb, h38, h42, hbel, hB2, ho9, ho, hi⟩ K2 hK2
    obtain ⟨h0, h3, h5, h6, h7⟩ := hb
    have HO := hide ho
    have HO9 := hide ho9
    have HB := hide hbel
    have HK2 := hide hK2
    have HI := hide hi
    clear ho ho9 hbel hK2 hi
    have w5 := wrap64' hcr
    cases q1 : (cur != -1)
    case false =>
      have hcur : cur = -1 := by simpa using q1
      repeat (first
        | (refine wpList_put hD hV ?hd ?_; (case hd => decide); clear hD hV; (try clear a); intro a hD hV)
        | ((first | refine wpList_plain rfl (fun K hK => ?_) | refine wpList_step (fun K hK => ?_)); go_simp; refine hK _ _ ?_; clear hK K)
        | (refine wp_cond_true ?hc ?_; (case hc => simp [Act.eval, hV, hfs]; done))
        | (refine wp_cond_false ?hc ?_; (case hc => simp [Act.eval, hV, hfs]; done))
        | go_step)
      exact HK.out a _ _ (E.nv - (v + 1)) hD hV (by omega) ⟨v + 1, _, lf, by omega, rfl, by simp [hfs], ⟨by simp [hfs, h0], by simp [hfs, h3], by simp [hfs, h5], by simp [hfs, h6], by simp [hfs, h7]⟩, by simp [hfs, h38], by simp [hfs, h42], HB.out, hB2, HO9.out, HO.out, (hcur ▸ HI.out).finish HL.out⟩
    case true =>
      have hne := hide (show cur ≠ -1 by simpa using q1)
      have bad : Hid (∀ h : Holds E D mix, ∃ c : Nat, cur = (c : Int) ∧ c < E.nc ∧ lf c = false ∧ D.K.of c = (v : Int) ∧ D.K.pv c = p) := fun h => LisIn.next h hvn (.inr fun v' hv' c hc => (HL.out.mem v' hv' c hc).2) HI.out hne.out
      by_cases q2 : cur < 0
      · repeat (first
          | (refine wpList_put hD hV ?hd ?_; (case hd => decide); clear hD hV; (try clear a); intro a hD hV)
          | ((first | refine wpList_plain rfl (fun K hK => ?_) | refine wpList_step (fun K hK => ?_)); go_simp; refine hK _ _ ?_; clear hK K)
          | (refine wp_cond_true ?hc ?_; (case hc => simp [Act.eval, hV, hfs]; done))
          | (refine wp_cond_false ?hc ?_; (case hc => simp [Act.eval, hV, hfs]; done))
          | go_step)
        exact HR.out a _ _ hD hV (by simp [hfs]) HB.out (fun h => by obtain ⟨c, e, _⟩ := bad.out h; omega)
      by_cases q3 : (E.nc : Int) ≤ cur
      · repeat (first
          | (refine wpList_put hD hV ?hd ?_; (case hd => decide); clear hD hV; (try clear a); intro a hD hV)
          | ((first | refine wpList_plain rfl (fun K hK => ?_) | refine wpList_step (fun K hK => ?_)); go_simp; refine hK _ _ ?_; clear hK K)
          | (refine wp_cond_true ?hc ?_; (case hc => simp [Act.eval, hV, hfs]; done))
          | (refine wp_cond_false ?hc ?_; (case hc => simp [Act.eval, hV, hfs]; done))
          | go_step)
        exact HR.out a _ _ hD hV (by simp [hfs]) HB.out (fun h => by obtain ⟨c, e, _⟩ := bad.out h; omega)
      obtain ⟨c, hc⟩ := Int.eq_ofNat_of_zero_le (show 0 ≤ cur by omega)
      subst hc
      have hcn : c < E.nc := by omega
      have HRw := hide (HRd.out.below HB.out)
      have s15 : w2.cell? ⟨S, 15, none⟩ = some (.slice (T.A 15) E.nc (T.cap 15)) := HS.out.below HB.out hSB 15 (by decide)
      have s14 : w2.cell? ⟨S, 14, none⟩ = some (.slice (T.A 14) E.nc (T.cap 14)) := HS.out.below HB.out hSB 14 (by decide)
      have s13 : w2.cell? ⟨S, 13, none⟩ = some (.slice (T.A 13) E.nc (T.cap 13)) := HS.out.below HB.out hSB 13 (by decide)
      have n15 := HRw.out.n15 (by omega)
      have n14 := HRw.out.n14 (by omega)
      have n13 := HRw.out.n13 (by omega)
      have d15 := HRw.out.d15 c hcn
      have d14 := HRw.out.d14 c hcn
      have d13 := HRw.out.d13 c hcn
      have c1 := HO.out.arr.cell hcn
      have f1 := HO.out.arr.frozen c
      have wo := wrap64' (HRw.out.r_o c hcn)
      cases q4 : lf c
      case true =>
        repeat (first
          | (refine wpList_put hD hV ?hd ?_; (case hd => decide); clear hD hV; (try clear a); intro a hD hV)
          | ((first | refine wpList_plain rfl (fun K hK => ?_) | refine wpList_step (fun K hK => ?_)); go_simp; refine hK _ _ ?_; clear hK K)
          | (refine wp_cond_true ?hc ?_; (case hc => simp [Act.eval, hV, hfs]; done))
          | (refine wp_cond_false ?hc ?_; (case hc => simp [Act.eval, hV, hfs]; done))
          | go_step)
        exact HR.out a _ _ hD hV (by simp [hfs]) HB.out (fun h => by
          obtain ⟨c', e, h1, h2, _⟩ := bad.out h
          have : c = c' := by omega
          subst this
          rw [q4] at h2; cases h2)
      case false =>
        cases q5 : (D.K.of c != (v : Int))
        case true =>
          repeat (first
            | (refine wpList_put hD hV ?hd ?_; (case hd => decide); clear hD hV; (try clear a); intro a hD hV)
            | ((first | refine wpList_plain rfl (fun K hK => ?_) | refine wpList_step (fun K hK => ?_)); go_simp; refine hK _ _ ?_; clear hK K)
            | (refine wp_cond_true ?hc ?_; (case hc => simp [Act.eval, hV, hfs]; done))
            | (refine wp_cond_false ?hc ?_; (case hc => simp [Act.eval, hV, hfs]; done))
            | go_step)
          exact HR.out a _ _ hD hV (by simp [hfs]) HB.out (fun h => by
            obtain ⟨c', e, h1, h2, h3, _⟩ := bad.out h
            have : c = c' := by omega
            subst this
            simp [h3] at q5)
        case false =>
          cases q6 : (D.K.pv c != p)
          case true =>
            repeat (first
              | (refine wpList_put hD hV ?hd ?_; (case hd => decide); clear hD hV; (try clear a); intro a hD hV)
              | ((first | refine wpList_plain rfl (fun K hK => ?_) | refine wpList_step (fun K hK => ?_)); go_simp; refine hK _ _ ?_; clear hK K)
              | (refine wp_cond_true ?hc ?_; (case hc => simp [Act.eval, hV, hfs]; done))
              | (refine wp_cond_false ?hc ?_; (case hc => simp [Act.eval, hV, hfs]; done))
              | go_step)
            exact HR.out a _ _ hD hV (by simp [hfs]) HB.out (fun h => by
              obtain ⟨c', e, h1, h2, h3, h4⟩ := bad.out h
              have : c = c' := by omega
              subst this
              simp [h4] at q6)
          case false =>
            have hg := HO.out.ge
            have x1 : ∀ x, (w2.setCell ⟨g10, c, none⟩ x).cell? ⟨S, 13, none⟩ = some (.slice (T.A 13) E.nc (T.cap 13)) := fun x => by rw [cell_far _ _ _ _ (by show g10 ≠ S; omega)]; exact s13
            have x2 : ∀ x, (w2.setCell ⟨g10, c, none⟩ x).cell? ⟨T.b 13, T.o 13 + c, none⟩ = some (.int .i32 (D.K.nx c)) := fun x => by rw [cell_far _ _ _ _ (by show g10 ≠ T.b 13; have := HRw.out.b13 (by omega); omega)]; exact d13
            have hc1 := cnt_one (p := lf) (q := upd lf c true) hcn q4 (upd_self _ _ _) (fun j _ e => upd_ne _ _ e)
            have hc2 := cnt_le E.nc (upd lf c true)
            have HCC := hide hc1
            have HC2 := hide hc2
            clear hc1 hc2
            repeat (first
              | (refine wpList_put hD hV ?hd ?_; (case hd => decide); clear hD hV; (try clear a); intro a hD hV)
              | ((first | refine wpList_plain rfl (fun K hK => ?_) | refine wpList_step (fun K hK => ?_)); go_simp; refine hK _ _ ?_; clear hK K)
              | (refine wp_cond_true ?hc ?_; (case hc => simp [Act.eval, hV, hfs]; done))
              | (refine wp_cond_false ?hc ?_; (case hc => simp [Act.eval, hV, hfs]; done))
              | go_step)
            refine HK2.out a _ _ (E.nc - cnt E.nc (upd lf c true)) hD hV (by have := HCC.out; have := HC2.out; omega) ⟨upd lf c true, done ++ [c], (c : Int), D.K.nx c, rfl, by simp [hfs], by simp [hfs], HRw.out.r_n c hcn, by simp [hfs, h43], ⟨by simp [hfs, h0], by simp [hfs, h3], by simp [hfs, h5], by simp [hfs, h6], by simp [hfs, h7]⟩, by simp [hfs, h38], by simp [hfs, h42], HB.out.setCell HO.out.ge _, by simpa using hB2, HO9.out.far (by show g9 ≠ g10; omega) _, (HO.out.set hcn _).congr (fun j hj => by unfold fset upd; split <;> rfl),
              HI.out.step hcn q4 (by simpa using q5) (by simpa using q6)⟩
  · repeat (first
      | (refine wpList_put hD hV ?hd ?_; (case hd => decide); clear hD hV; (try clear a); intro a hD hV)
      | ((first | refine wpList_plain rfl (fun K hK => ?_) | refine wpList_step (fun K hK => ?_)); go_simp; refine hK _ _ ?_; clear hK K)
      | (refine wp_cond_true ?hc ?_; (case hc => simp [Act.eval, hV, hfs]; done))
      | (refine wp_cond_false ?hc ?_; (case hc => simp [Act.eval, hV, hfs]; done))
      | go_step)
    have hvv : v = E.nv := by omega
    subst hvv
    exact HN.out a _ _ L lf0 hD hV ⟨by simp [hfs, h0], by simp [hfs, h3], by simp [hfs, h5], by simp [hfs, h6], by simp [hfs, h7]⟩ (by simp [hfs, h38]) (by simp [hfs, h42]) HB.out hB' HO9.out HO.out HL.out

theorem LisTo.ok {L : Nat → List Nat} {lf : Nat → Bool} (h : LisTo E.nc D.K E.nv L lf) (hall : ∀ c, c < E.nc → 0 ≤ D.K.of c → lf c = true) : ListsOk E.nc E.nv D.K.first D.K.nx D.K.pv D.K.of :=
  ⟨L, h.seg, h.nodup, h.mem, fun v hv c hc ho => by
    obtain ⟨v', h1, h2⟩ := (h.lf c hc).1 (hall c hc (by omega))
    have := (h.mem v' h1 c h2).2
    have : v = v' := by omega
    subst this
    exact h2⟩
theorem LisTo.all {L : Nat → List Nat} {lf : Nat → Bool} (h : LisTo E.nc D.K E.nv L lf) (hh : Holds E D mix) {c : Nat} (hc : c < E.nc) (ho : 0 ≤ D.K.of c) : lf c = true := by
  obtain ⟨L', hL'⟩ := hh.ul
  obtain ⟨v, hv⟩ := Int.eq_ofNat_of_zero_le ho
  have hvn : v < E.nv := by
    have h1 := hh.uo c hc
    unfold Env.unreadOf at h1
    split at h1
    next hcd =>
      have := hh.opAt (k := (D.next c).toNat) hc (by have := hh.nx c hc; omega)
      have := hh.vs _ this.2
      omega
    · omega
  have h1 := hL'.all v hvn c hc hv
  rw [(hL'.seg v hvn).uniq (h.seg v hvn)] at h1
  exact (h.lf c hc).2 ⟨v, hvn, h1⟩

set_option maxHeartbeats 1000000 in
theorem st30 {a : Act} {w : World} {f : Nat → Value} {g9 g10 : Nat} {v9 : Nat → Value} {L : Nat → List Nat} {lf : Nat → Bool} (hR : Rd W B T E D) (hS : Sb W S T E D) (hSB : S < B) (hW : Below B W w) (hB : B ≤ w.heap.size) (hb : Bs T E S f) (h38 : f 38 = .slice (some ⟨g9, 0, none⟩) E.nc E.nc) (h42 : f 42 = .slice (some ⟨g10, 0, none⟩) E.nc E.nc) (ho : Own B w g10 E.nc 4 (fun c => .bool (lf c))) (hl : LisTo E.nc D.K E.nv L lf) (hD : a.defers = []) (hV : ∀ j, j < 864 → a.tmps[j]? = some (f j))
    (hNext : ∀ (a : Act) (f : Nat → Value), a.defers = [] → (∀ j, j < 864 → a.tmps[j]? = some (f j)) → Bs T E S f → f 38 = .slice (some ⟨g9, 0, none⟩) E.nc E.nc → ListsOk E.nc E.nv D.K.first D.K.nx D.K.pv D.K.of → Q .normal a w)
    (hRet : ∀ (a : Act) (f : Nat → Value) (w : World), a.defers = [] → (∀ j, j < 864 → a.tmps[j]? = some (f j)) → f 4 = .bool false → Below B W w → ¬ Holds E D mix → Q .ret a w) : Code.wp Try.prog (sub [1, 1, 1, 1, 1, 1, 1, 1, 1, 1, 1, 1, 1, 1, 1, 1, 1, 1, 1, 1, 1, 1, 1, 1, 1, 1, 1, 1, 1, 1, 0] (Try.f7.body.getD .skip)) Q a w := by
  have hfs := fset_at
  obtain ⟨h0, h3, h5, h6, h7⟩ := hb
  have HN := hide hNext
  have HR := hide hRet
  have HO := hide ho
  have HW := hide hW
  have HL := hide hl
  have HRw := hide (hR.below hW)
  have s15 : w.cell? ⟨S, 15, none⟩ = some (.slice (T.A 15) E.nc (T.cap 15)) := hS.below hW hSB 15 (by decide)
  have m1 := hR.m_c
  clear hNext hRet ho hR hS hW hl
  conv => arg 2; whnf
  repeat (first
    | (refine wpList_put hD hV ?hd ?_; (case hd => decide); clear hD hV; (try clear a); intro a hD hV)
    | ((first | refine wpList_plain rfl (fun K hK => ?_) | refine wpList_step (fun K hK => ?_)); go_simp; refine hK _ _ ?_; clear hK K)
    | (refine wp_cond_true ?hc ?_; (case hc => simp [Act.eval, hV, hfs]; done))
    | (refine wp_cond_false ?hc ?_; (case hc => simp [Act.eval, hV, hfs]; done))
    | go_step)
  refine wp_loop_f (N := 864) (fun m f w' => ∃ (k : Nat), k ≤ E.nc ∧ m = E.nc - k ∧ w' = w ∧ f 46 = .int .i64 (k : Nat) ∧ Bs T E S f ∧ f 38 = .slice (some ⟨g9, 0, none⟩) E.nc E.nc ∧ f 42 = .slice (some ⟨g10, 0, none⟩) E.nc E.nc ∧
    (∀ c, c < k → 0 ≤ D.K.of c → lf c = true)) E.nc hD hV
    ⟨0, by omega, by omega, rfl, by simp [hfs], ⟨by simp [hfs, h0], by simp [hfs, h3], by simp [hfs, h5], by simp [hfs, h6], by simp [hfs, h7]⟩, by simp [hfs, h38], by simp [hfs, h42], fun _ h => by omega⟩ ?_
  clear h0 h3 h5 h6 h7 h38 h42 hD hV a f
  intro m f w' a hD hV ⟨k, hk, hm', hw, h46, hb, h38, h42, hI⟩ K hK
  obtain rfl : w = w' := hw.symm
  obtain ⟨h0, h3, h5, h6, h7⟩ := hb
  have HK := hide hK
  have HI := hide hI
  clear hK hI hw
  by_cases hkn : k < E.nc
  · have n15 := HRw.out.n15 (by omega)
    have d15 := HRw.out.d15 k hkn
    have c1 := HO.out.arr.cell hkn
    have e4 : IntKind.i64.wrap ((k : Int) + 1) = (k : Int) + 1 := wrap64 (by unfold i64; omega)
    by_cases q1 : 0 ≤ D.K.of k
    · cases q2 : lf k
      case false =>
        repeat (first
          | (refine wpList_put hD hV ?hd ?_; (case hd => decide); clear hD hV; (try clear a); intro a hD hV)
          | ((first | refine wpList_plain rfl (fun K hK => ?_) | refine wpList_step (fun K hK => ?_)); go_simp; refine hK _ _ ?_; clear hK K)
          | (refine wp_cond_true ?hc ?_; (case hc => simp [Act.eval, hV, hfs]; done))
          | (refine wp_cond_false ?hc ?_; (case hc => simp [Act.eval, hV, hfs]; done))
          | go_step)
        exact HR.out a _ _ hD hV (by simp [hfs]) HW.out (fun h => by have := HL.out.all h hkn q1; rw [q2] at this; cases this)
      case true =>
        repeat (first
          | (refine wpList_put hD hV ?hd ?_; (case hd => decide); clear hD hV; (try clear a); intro a hD hV)
          | ((first | refine wpList_plain rfl (fun K hK => ?_) | refine wpList_step (fun K hK => ?_)); go_simp; refine hK _ _ ?_; clear hK K)
          | (refine wp_cond_true ?hc ?_; (case hc => simp [Act.eval, hV, hfs]; done))
          | (refine wp_cond_false ?hc ?_; (case hc => simp [Act.eval, hV, hfs]; done))
          | go_step)
        refine HK.out a _ _ (E.nc - (k + 1)) hD hV (by omega) ⟨k + 1, by omega, rfl, rfl, by simp [hfs], ⟨by simp [hfs, h0], by simp [hfs, h3], by simp [hfs, h5], by simp [hfs, h6], by simp [hfs, h7]⟩, by simp [hfs, h38], by simp [hfs, h42], fun c hc => ?_⟩
        by_cases e : c = k
        · subst e; exact fun _ => q2
        · exact HI.out c (by omega)
    · repeat (first
        | (refine wpList_put hD hV ?hd ?_; (case hd => decide); clear hD hV; (try clear a); intro a hD hV)
        | ((first | refine wpList_plain rfl (fun K hK => ?_) | refine wpList_step (fun K hK => ?_)); go_simp; refine hK _ _ ?_; clear hK K)
        | (refine wp_cond_true ?hc ?_; (case hc => simp [Act.eval, hV, hfs]; done))
        | (refine wp_cond_false ?hc ?_; (case hc => simp [Act.eval, hV, hfs]; done))
        | go_step)
      refine HK.out a _ _ (E.nc - (k + 1)) hD hV (by omega) ⟨k + 1, by omega, rfl, rfl, by simp [hfs], ⟨by simp [hfs, h0], by simp [hfs, h3], by simp [hfs, h5], by simp [hfs, h6], by simp [hfs, h7]⟩, by simp [hfs, h38], by simp [hfs, h42], fun c hc => ?_⟩
      by_cases e : c = k
      · subst e; exact fun h => absurd h q1
      · exact HI.out c (by omega)
  · repeat (first
      | (refine wpList_put hD hV ?hd ?_; (case hd => decide); clear hD hV; (try clear a); intro a hD hV)
      | ((first | refine wpList_plain rfl (fun K hK => ?_) | refine wpList_step (fun K hK => ?_)); go_simp; refine hK _ _ ?_; clear hK K)
      | (refine wp_cond_true ?hc ?_; (case hc => simp [Act.eval, hV, hfs]; done))
      | (refine wp_cond_false ?hc ?_; (case hc => simp [Act.eval, hV, hfs]; done))
      | go_step)
    exact HN.out a _ hD hV ⟨by simp [hfs, h0], by simp [hfs, h3], by simp [hfs, h5], by simp [hfs, h6], by simp [hfs, h7]⟩ (by simp [hfs, h38]) (HL.out.ok (fun c hc => HI.out c (by omega)))
end
end Go.Proofs.Qxb6616080a
