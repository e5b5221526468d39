/- THE ARGUMENTS AS THEY LIE; from them what each callee wants. -/
import Derived.Test.Qxb6616080aH11
import Derived.Test.Qxb6616080aH9
import Derived.Test.Qxb6616080aF7q
import Derived.Test.Qxb6616080aPlainE
namespace Go.Proofs.Qxb6616080a
open Go.RowKit
set_option linter.unusedVariables false
set_option linter.unusedSimpArgs false

/-- The ranges. -/
structure Rg (E : Env) (D : Dyn) : Prop where
  next : ∀ c, c < E.nc → i64 (D.next c)
  tp : i64 D.toPlace
  cur : ∀ v, v < E.nv → i32 (D.current v)
  aw : ∀ i, i < E.n → i32 (D.awaiting i)
  ho : ∀ v, v < E.nv → i32 (D.holders v)
  hs : ∀ v, v < E.nv → i64 (D.holderSum v)
  ini : ∀ v, v < E.nv → i32 (D.initial v)
  f : ∀ v, v < E.nv → i32 (D.K.first v)
  kr : Kr E D.K
  o : ∀ c, c < E.nc → i32 (D.K.of c)

structure In (w : World) (T : Ad) (L : Nat → Nat) (E : Env) (D : Dyn) : Prop where
  e1 : L 1 = E.nc
  e5 : L 5 = E.nv
  e16 : L 16 = E.nl
  row : ∀ i, 1 ≤ i → i ≤ 16 → i ≠ 3 → (T.A i = none → L i = 0 ∧ T.cap i = 0) ∧ (0 < L i → T.A i = some ⟨T.b i, T.o i, none⟩) ∧ ∀ j, j < L i → w.cell? ⟨T.b i, T.o i + j, none⟩ = some (datF T E D i j)
  chn : ∀ c, c < E.nc → (T.cA c = none → E.cl c = 0 ∧ T.cc c = 0) ∧ (0 < E.cl c → T.cA c = some ⟨T.cb c, T.co c, none⟩) ∧ ∀ k, k < E.cl c → w.cell? ⟨T.cb c, T.co c + k, none⟩ = some (.int .i32 (E.ch c k))
  lvl : ∀ l, l < E.nl → (T.lA l = none → E.ll l = 0 ∧ T.lc l = 0) ∧ (0 < E.ll l → T.lA l = some ⟨T.lb l, T.lo l, none⟩) ∧ ∀ i, i < E.ll l → w.cell? ⟨T.lb l, T.lo l + i, none⟩ = some (.int .u64 (D.lw l i : Nat))
  on : 0 < E.n → T.oA = some ⟨T.ob, T.oo, none⟩
  o0 : ∀ i, i < E.n → w.cell? ⟨T.ob, T.oo + i * 6, none⟩ = some (.int .i32 (E.proc i))
  o1 : ∀ i, i < E.n → ∃ x, w.cell? ⟨T.ob, T.oo + i * 6 + 1, none⟩ = some (.int .i32 x) ∧ i32 x
  o2 : ∀ i, i < E.n → w.cell? ⟨T.ob, T.oo + i * 6 + 2, none⟩ = some (.bool (E.wr i))
  o3 : ∀ i, i < E.n → w.cell? ⟨T.ob, T.oo + i * 6 + 3, none⟩ = some (.int .i32 (E.vv i))
  o4 : ∀ i, i < E.n → ∃ s : ByteArray, w.cell? ⟨T.ob, T.oo + i * 6 + 4, none⟩ = some (.string s) ∧ s.size ≤ maxLen
  o5 : ∀ i, i < E.n → w.cell? ⟨T.ob, T.oo + i * 6 + 5, none⟩ = some (.int .i32 (E.src i))
  r_proc : ∀ i, i < E.n → i32 (E.proc i)
  r_vv : ∀ i, i < E.n → i32 (E.vv i)
  r_src : ∀ i, i < E.n → i32 (E.src i)
  r_ch : ∀ c, c < E.nc → ∀ k, k < E.cl c → i32 (E.ch c k)
  r_only : i32 E.only
  r_next : ∀ j, j < L 2 → i64 (D.next j)
  r_tp : i64 D.toPlace
  r_cur : ∀ j, j < L 5 → i32 (D.current j)
  r_aw : ∀ j, j < L 6 → i32 (D.awaiting j)
  r_ho : ∀ j, j < L 8 → i32 (D.holders j)
  r_hs : ∀ j, j < L 9 → i64 (D.holderSum j)
  r_in : ∀ j, j < L 11 → i32 (D.initial j)
  r_f : ∀ j, j < L 12 → i32 (D.K.first j)
  r_n : ∀ j, j < L 13 → i32 (D.K.nx j)
  r_p : ∀ j, j < L 14 → i32 (D.K.pv j)
  r_o : ∀ j, j < L 15 → i32 (D.K.of j)
  r_lw : ∀ l, l < E.nl → ∀ i, i < E.ll l → D.lw l i < 2 ^ 64
  r_seed : E.seed < 2 ^ 64
  r_hash : D.hash < 2 ^ 64
  ml : ∀ i, L i ≤ maxLen
  mn : E.n ≤ maxLen
  mc : ∀ c, c < E.nc → E.cl c ≤ maxLen
  mll : ∀ l, l < E.nl → E.ll l ≤ maxLen

section
variable {w : World} {T : Ad} {L : Nat → Nat} {E : Env} {D : Dyn}
theorem In.rw (h : In w T L E D) : Rw w E.n T L E.cl E.ll :=
  ⟨(h.row 1 (by omega) (by omega) (by omega)).2.1, (h.row 1 (by omega) (by omega) (by omega)).2.2, (h.row 16 (by omega) (by omega) (by omega)).2.1, (h.row 16 (by omega) (by omega) (by omega)).2.2, h.on, h.o4, h.ml, h.mn, fun c hc => h.mc c (h.e1 ▸ hc), fun l hl => h.mll l (h.e16 ▸ hl)⟩
theorem In.len (h : In w T L E D) (hL : LenOk L E.n) {i : Nat} (h1 : 1 ≤ i) (h16 : i ≤ 16) (h3 : i ≠ 3) : L i = lenF E i := by
  obtain ⟨l2, l4, l6, l7, l8, l9, l10, l11, l12, l13, l14, l15⟩ := hL
  have e1 := h.e1
  have e5 := h.e5
  have e16 := h.e16
  have : i = 1 ∨ i = 2 ∨ i = 4 ∨ i = 5 ∨ i = 6 ∨ i = 7 ∨ i = 8 ∨ i = 9 ∨ i = 10 ∨ i = 11 ∨ i = 12 ∨ i = 13 ∨ i = 14 ∨ i = 15 ∨ i = 16 := by omega
  rcases this with rfl | rfl | rfl | rfl | rfl | rfl | rfl | rfl | rfl | rfl | rfl | rfl | rfl | rfl | rfl <;> simp only [lenF] <;> omega
theorem In.sval (h : In w T L E D) (hL : LenOk L E.n) : rval T.A L T.cap E.only D.toPlace E.seed D.hash = sval T E D := by
  have e : ∀ i, 1 ≤ i → i ≤ 16 → i ≠ 3 → L i = lenF E i := fun i h1 h16 h3 => h.len hL h1 h16 h3
  unfold rval Go.Proofs.Qxb6616080a.sval
  rw [e 1 (by omega) (by omega) (by omega), e 2 (by omega) (by omega) (by omega), e 4 (by omega) (by omega) (by omega), e 5 (by omega) (by omega) (by omega), e 6 (by omega) (by omega) (by omega), e 7 (by omega) (by omega) (by omega), e 8 (by omega) (by omega) (by omega), e 9 (by omega) (by omega) (by omega), e 10 (by omega) (by omega) (by omega), e 11 (by omega) (by omega) (by omega), e 12 (by omega) (by omega) (by omega), e 13 (by omega) (by omega) (by omega), e 14 (by omega) (by omega) (by omega), e 15 (by omega) (by omega) (by omega), e 16 (by omega) (by omega) (by omega)]
  rfl
theorem In.rg (h : In w T L E D) (hL : LenOk L E.n) : Rg E D := by
  have e : ∀ i, 1 ≤ i → i ≤ 16 → i ≠ 3 → L i = lenF E i := fun i h1 h16 h3 => h.len hL h1 h16 h3
  exact ⟨fun c hc => h.r_next c (by rw [e 2 (by omega) (by omega) (by omega)]; exact hc), h.r_tp, fun c hc => h.r_cur c (by rw [e 5 (by omega) (by omega) (by omega)]; exact hc), fun c hc => h.r_aw c (by rw [e 6 (by omega) (by omega) (by omega)]; exact hc), fun c hc => h.r_ho c (by rw [e 8 (by omega) (by omega) (by omega)]; exact hc), fun c hc => h.r_hs c (by rw [e 9 (by omega) (by omega) (by omega)]; exact hc), fun c hc => h.r_in c (by rw [e 11 (by omega) (by omega) (by omega)]; exact hc), fun c hc => h.r_f c (by rw [e 12 (by omega) (by omega) (by omega)]; exact hc),
    fun c hc => ⟨h.r_n c (by rw [e 13 (by omega) (by omega) (by omega)]; exact hc), h.r_p c (by rw [e 14 (by omega) (by omega) (by omega)]; exact hc)⟩, fun c hc => h.r_o c (by rw [e 15 (by omega) (by omega) (by omega)]; exact hc)⟩

/-- The sizes, of E alone. -/
structure Es (E : Env) : Prop where
  n : E.n ≤ 4096
  nc : E.nc ≤ 4096
  nv : E.nv ≤ 4096
  cl : ∀ c, c < E.nc → E.cl c ≤ 1048576
  nl : E.nl ≤ 1048576
  ll : ∀ l, l < E.nl → E.ll l ≤ 1048576

theorem In.rd (h : In w T L E D) (hL : LenOk L E.n) (hs : Es E) : Rd w w.heap.size T E D := by
  have hrg := h.rg hL
  have R : ∀ i, 1 ≤ i → i ≤ 16 → i ≠ 3 → (0 < lenF E i → T.A i = some ⟨T.b i, T.o i, none⟩) ∧ (0 < lenF E i → T.b i < w.heap.size) ∧ ∀ j, j < lenF E i → w.cell? ⟨T.b i, T.o i + j, none⟩ = some (datF T E D i j) := fun i h1 h16 h3 => by
    have hr := h.row i h1 h16 h3
    rw [h.len hL h1 h16 h3] at hr
    exact ⟨hr.2.1, fun h0 => World.block_lt_of_cell? w _ (hr.2.2 0 h0), hr.2.2⟩
  exact {
    n1 := (R 1 (by omega) (by omega) (by omega)).1, b1 := (R 1 (by omega) (by omega) (by omega)).2.1, d1 := (R 1 (by omega) (by omega) (by omega)).2.2
    n2 := (R 2 (by omega) (by omega) (by omega)).1, b2 := (R 2 (by omega) (by omega) (by omega)).2.1, d2 := (R 2 (by omega) (by omega) (by omega)).2.2
    n4 := (R 4 (by omega) (by omega) (by omega)).1, b4 := (R 4 (by omega) (by omega) (by omega)).2.1, d4 := (R 4 (by omega) (by omega) (by omega)).2.2
    n5 := (R 5 (by omega) (by omega) (by omega)).1, b5 := (R 5 (by omega) (by omega) (by omega)).2.1, d5 := (R 5 (by omega) (by omega) (by omega)).2.2
    n6 := (R 6 (by omega) (by omega) (by omega)).1, b6 := (R 6 (by omega) (by omega) (by omega)).2.1, d6 := (R 6 (by omega) (by omega) (by omega)).2.2
    n7 := (R 7 (by omega) (by omega) (by omega)).1, b7 := (R 7 (by omega) (by omega) (by omega)).2.1, d7 := (R 7 (by omega) (by omega) (by omega)).2.2
    n8 := (R 8 (by omega) (by omega) (by omega)).1, b8 := (R 8 (by omega) (by omega) (by omega)).2.1, d8 := (R 8 (by omega) (by omega) (by omega)).2.2
    n9 := (R 9 (by omega) (by omega) (by omega)).1, b9 := (R 9 (by omega) (by omega) (by omega)).2.1, d9 := (R 9 (by omega) (by omega) (by omega)).2.2
    n10 := (R 10 (by omega) (by omega) (by omega)).1, b10 := (R 10 (by omega) (by omega) (by omega)).2.1, d10 := (R 10 (by omega) (by omega) (by omega)).2.2
    n11 := (R 11 (by omega) (by omega) (by omega)).1, b11 := (R 11 (by omega) (by omega) (by omega)).2.1, d11 := (R 11 (by omega) (by omega) (by omega)).2.2
    n12 := (R 12 (by omega) (by omega) (by omega)).1, b12 := (R 12 (by omega) (by omega) (by omega)).2.1, d12 := (R 12 (by omega) (by omega) (by omega)).2.2
    n13 := (R 13 (by omega) (by omega) (by omega)).1, b13 := (R 13 (by omega) (by omega) (by omega)).2.1, d13 := (R 13 (by omega) (by omega) (by omega)).2.2
    n14 := (R 14 (by omega) (by omega) (by omega)).1, b14 := (R 14 (by omega) (by omega) (by omega)).2.1, d14 := (R 14 (by omega) (by omega) (by omega)).2.2
    n15 := (R 15 (by omega) (by omega) (by omega)).1, b15 := (R 15 (by omega) (by omega) (by omega)).2.1, d15 := (R 15 (by omega) (by omega) (by omega)).2.2
    n16 := (R 16 (by omega) (by omega) (by omega)).1, b16 := (R 16 (by omega) (by omega) (by omega)).2.1, d16 := (R 16 (by omega) (by omega) (by omega)).2.2
    cn := fun c hc => (h.chn c hc).2.1, cB := fun c hc h0 => World.block_lt_of_cell? w _ ((h.chn c hc).2.2 0 h0), cd := fun c hc => (h.chn c hc).2.2
    ln := fun c hc => (h.lvl c hc).2.1, lB := fun c hc h0 => World.block_lt_of_cell? w _ ((h.lvl c hc).2.2 0 h0), ld := fun c hc => (h.lvl c hc).2.2
    on := h.on, oB := fun h0 => World.block_lt_of_cell? w _ (h.o0 0 h0), o0 := h.o0, o1 := h.o1, o2 := h.o2, o3 := h.o3, o4 := h.o4, o5 := h.o5
    r_proc := h.r_proc, r_vv := h.r_vv, r_src := h.r_src, r_ch := h.r_ch, r_next := hrg.next, r_tp := hrg.tp, r_only := h.r_only, r_cur := hrg.cur, r_aw := hrg.aw, r_ho := hrg.ho, r_hs := hrg.hs, r_in := hrg.ini, r_f := hrg.f
    r_n := fun c hc => (hrg.kr c hc).1, r_p := fun c hc => (hrg.kr c hc).2, r_o := hrg.o, r_lw := h.r_lw, r_seed := h.r_seed, r_hash := h.r_hash
    m_n := hs.n, m_c := hs.nc, m_v := hs.nv, m_cl := hs.cl, m_nl := hs.nl, m_ll := hs.ll }

/-- The copy read beside the given operations. -/
def Ad.mix (T' T : Ad) : Ad := { T' with oA := T.oA, ob := T.ob, oo := T.oo, oc := T.oc }
theorem rd_of {w0 : World} {τ : Nat → Nat} {T' : Ad} {D' : Dyn} (h : In w0 T L E D) (hs : Es E) (hT : Tn τ w T' E D') (ho : T'.o = (fun _ => 0) ∧ T'.co = (fun _ => 0) ∧ T'.lo = (fun _ => 0)) (hrg : Rg E D') (hz : Sz E D') (hb : Below w0.heap.size w0 w) : Rd w w.heap.size (T'.mix T) E D' := by
  have R : ∀ i, 1 ≤ i → i ≤ 16 → i ≠ 3 → (0 < lenF E i → T'.A i = some ⟨T'.b i, T'.o i, none⟩) ∧ (0 < lenF E i → T'.b i < w.heap.size) ∧ ∀ j, j < lenF E i → w.cell? ⟨T'.b i, T'.o i + j, none⟩ = some (datF T' E D' i j) := fun i h1 h16 h3 => by
    rw [ho.1]
    exact ⟨fun h0 => (hT.row i h0).1, fun h0 => (hT.row i h0).2.2.lt, fun j hj => by
      have := (hT.row i (Nat.zero_lt_of_lt hj)).2.2.cell hj
      show w.cell? ⟨T'.b i, 0 + j, none⟩ = _
      rw [Nat.zero_add]
      exact this⟩
  have hx : ∀ {a : Addr} {v : Value}, w0.cell? a = some v → w.cell? a = some v := fun {a v} hc => (hb.cell (World.block_lt_of_cell? w0 a hc)).trans hc
  have hwl := hb.size
  exact {
    n1 := (R 1 (by omega) (by omega) (by omega)).1, b1 := (R 1 (by omega) (by omega) (by omega)).2.1, d1 := (R 1 (by omega) (by omega) (by omega)).2.2
    n2 := (R 2 (by omega) (by omega) (by omega)).1, b2 := (R 2 (by omega) (by omega) (by omega)).2.1, d2 := (R 2 (by omega) (by omega) (by omega)).2.2
    n4 := (R 4 (by omega) (by omega) (by omega)).1, b4 := (R 4 (by omega) (by omega) (by omega)).2.1, d4 := (R 4 (by omega) (by omega) (by omega)).2.2
    n5 := (R 5 (by omega) (by omega) (by omega)).1, b5 := (R 5 (by omega) (by omega) (by omega)).2.1, d5 := (R 5 (by omega) (by omega) (by omega)).2.2
    n6 := (R 6 (by omega) (by omega) (by omega)).1, b6 := (R 6 (by omega) (by omega) (by omega)).2.1, d6 := (R 6 (by omega) (by omega) (by omega)).2.2
    n7 := (R 7 (by omega) (by omega) (by omega)).1, b7 := (R 7 (by omega) (by omega) (by omega)).2.1, d7 := (R 7 (by omega) (by omega) (by omega)).2.2
    n8 := (R 8 (by omega) (by omega) (by omega)).1, b8 := (R 8 (by omega) (by omega) (by omega)).2.1, d8 := (R 8 (by omega) (by omega) (by omega)).2.2
    n9 := (R 9 (by omega) (by omega) (by omega)).1, b9 := (R 9 (by omega) (by omega) (by omega)).2.1, d9 := (R 9 (by omega) (by omega) (by omega)).2.2
    n10 := (R 10 (by omega) (by omega) (by omega)).1, b10 := (R 10 (by omega) (by omega) (by omega)).2.1, d10 := (R 10 (by omega) (by omega) (by omega)).2.2
    n11 := (R 11 (by omega) (by omega) (by omega)).1, b11 := (R 11 (by omega) (by omega) (by omega)).2.1, d11 := (R 11 (by omega) (by omega) (by omega)).2.2
    n12 := (R 12 (by omega) (by omega) (by omega)).1, b12 := (R 12 (by omega) (by omega) (by omega)).2.1, d12 := (R 12 (by omega) (by omega) (by omega)).2.2
    n13 := (R 13 (by omega) (by omega) (by omega)).1, b13 := (R 13 (by omega) (by omega) (by omega)).2.1, d13 := (R 13 (by omega) (by omega) (by omega)).2.2
    n14 := (R 14 (by omega) (by omega) (by omega)).1, b14 := (R 14 (by omega) (by omega) (by omega)).2.1, d14 := (R 14 (by omega) (by omega) (by omega)).2.2
    n15 := (R 15 (by omega) (by omega) (by omega)).1, b15 := (R 15 (by omega) (by omega) (by omega)).2.1, d15 := (R 15 (by omega) (by omega) (by omega)).2.2
    n16 := (R 16 (by omega) (by omega) (by omega)).1, b16 := (R 16 (by omega) (by omega) (by omega)).2.1, d16 := (R 16 (by omega) (by omega) (by omega)).2.2
    cn := fun c hc h0 => by show T'.cA c = some ⟨T'.cb c, T'.co c, none⟩; rw [ho.2.1]; exact (hT.chn c hc h0).1
    cB := fun c hc h0 => (hT.chn c hc h0).2.2.lt
    cd := fun c hc k hk => by
      show w.cell? ⟨T'.cb c, T'.co c + k, none⟩ = _
      rw [ho.2.1, Nat.zero_add]
      exact (hT.chn c hc (Nat.zero_lt_of_lt hk)).2.2.cell hk
    ln := fun c hc h0 => by show T'.lA c = some ⟨T'.lb c, T'.lo c, none⟩; rw [ho.2.2]; exact (hT.lvl c hc h0).1
    lB := fun c hc h0 => (hT.lvl c hc h0).2.2.lt
    ld := fun c hc k hk => by
      show w.cell? ⟨T'.lb c, T'.lo c + k, none⟩ = _
      rw [ho.2.2, Nat.zero_add]
      exact (hT.lvl c hc (Nat.zero_lt_of_lt hk)).2.2.cell hk
    on := h.on, oB := fun h0 => World.block_lt_of_cell? w _ (hx (h.o0 0 h0)), o0 := fun i hi => hx (h.o0 i hi), o1 := fun i hi => by obtain ⟨x, h1, h2⟩ := h.o1 i hi; exact ⟨x, hx h1, h2⟩
    o2 := fun i hi => hx (h.o2 i hi), o3 := fun i hi => hx (h.o3 i hi), o4 := fun i hi => by obtain ⟨x, h1, h2⟩ := h.o4 i hi; exact ⟨x, hx h1, h2⟩
    o5 := fun i hi => hx (h.o5 i hi)
    r_proc := h.r_proc, r_vv := h.r_vv, r_src := h.r_src, r_ch := h.r_ch, r_next := hrg.next, r_tp := hrg.tp, r_only := h.r_only, r_cur := hrg.cur, r_aw := hrg.aw, r_ho := hrg.ho, r_hs := hrg.hs, r_in := hrg.ini, r_f := hrg.f
    r_n := fun c hc => (hrg.kr c hc).1, r_p := fun c hc => (hrg.kr c hc).2, r_o := hrg.o, r_lw := hz.lw, r_seed := h.r_seed, r_hash := hz.hash
    m_n := hs.n, m_c := hs.nc, m_v := hs.nv, m_cl := hs.cl, m_nl := hs.nl, m_ll := hs.ll }

/-- The ranges of a whole search. -/
theorem Holds.rg (h : Holds E D zmix) (hz : Sz E D) (hk : Kr E D.K) : Rg E D := by
  have hn := hz.n
  have hnc := hz.nc
  have hnv := hz.nv
  refine ⟨fun c hc => ?_, ?_, fun v hv => ?_, fun i hi => ?_, fun v hv => ?_, fun v hv => ?_, fun v hv => ?_, fun v hv => ?_, hk, fun c hc => ?_⟩
  · have := h.nx c hc; have := hz.cl c hc; unfold i64; omega
  · have ht := tot_range (f := fun c => (E.cl c : Int) - D.next c) (b := 1048576) (n := E.nc) (fun j hj => by have := h.nx j hj; have := hz.cl j hj; omega)
    rw [← h.tp] at ht
    unfold i64; omega
  · unfold i32
    by_cases e : D.current v = -1
    · omega
    · have := (h.cu v hv e).1; omega
  · rw [h.aw i hi]; have := cnt_le E.n (fun j => E.rd j && decide (E.src j = (i : Int)) && !D.placed j); unfold i32; omega
  · rw [h.ho v hv]; have := cnt_le E.nc (fun c => E.hold (D.next c) v c); unfold i32; omega
  · rw [h.hs v hv]
    have := sumIf_le E.nc (fun c => E.hold (D.next c) v c)
    have h2 : E.nc * E.nc ≤ 4096 * 4096 := Nat.mul_le_mul hnc hnc
    unfold i64; omega
  · rw [h.ini v hv]; have := cnt_le E.n (fun j => E.rd j && decide (E.src j = -1) && decide (E.vv j = (v : Int)) && !D.placed j); unfold i32; omega
  · have := h.first hv; unfold i32; omega
  · rw [h.uo c hc]; have := h.of_range' hc (h.nx c hc).1; unfold i32; omega
end
end Go.Proofs.Qxb6616080a
