/- HOW A SEARCH LIES IN MEMORY: what 'searchHolds' reads. -/
import Derived.Test.Qxb6616080aWk
import Derived.Test.Qxb6616080aPlainC
namespace Go.Proofs.Qxb6616080a
open Go.RowKit
set_option linter.unusedVariables false

/-- Where the rows lie: field i of the struct, chain c, level l, the operations. -/
structure Ad where
  A : Nat → Option Addr
  b : Nat → Nat
  o : Nat → Nat
  cap : Nat → Nat
  cA : Nat → Option Addr
  cb : Nat → Nat
  co : Nat → Nat
  cc : Nat → Nat
  lA : Nat → Option Addr
  lb : Nat → Nat
  lo : Nat → Nat
  lc : Nat → Nat
  oA : Option Addr
  ob : Nat
  oo : Nat
  oc : Nat

def i32 (x : Int) : Prop := -2147483648 ≤ x ∧ x ≤ 2147483647
def i64 (x : Int) : Prop := -9223372036854775808 ≤ x ∧ x ≤ 9223372036854775807

/-- The struct's fields as values. -/
def sval (T : Ad) (E : Env) (D : Dyn) : Array Value := #[.int .i32 E.only, .slice (T.A 1) E.nc (T.cap 1), .slice (T.A 2) E.nc (T.cap 2), .int .i64 D.toPlace, .slice (T.A 4) E.n (T.cap 4), .slice (T.A 5) E.nv (T.cap 5), .slice (T.A 6) E.n (T.cap 6), .slice (T.A 7) E.n (T.cap 7), .slice (T.A 8) E.nv (T.cap 8), .slice (T.A 9) E.nv (T.cap 9), .slice (T.A 10) E.n (T.cap 10), .slice (T.A 11) E.nv (T.cap 11), .slice (T.A 12) E.nv (T.cap 12), .slice (T.A 13) E.nc (T.cap 13), .slice (T.A 14) E.nc (T.cap 14), .slice (T.A 15) E.nc (T.cap 15), .slice (T.A 16) E.nl (T.cap 16), .int .u64 (E.seed : Nat), .int .u64 (D.hash : Nat)]

/-- The rows that the struct leads to, all in blocks below B. -/
structure Rd (W : World) (B : Nat) (T : Ad) (E : Env) (D : Dyn) : Prop where
  n1 : 0 < E.nc → T.A 1 = some ⟨T.b 1, T.o 1, none⟩
  b1 : 0 < E.nc → T.b 1 < B
  d1 : ∀ j, j < E.nc → W.cell? ⟨T.b 1, T.o 1 + j, none⟩ = some (.slice (T.cA j) (E.cl j) (T.cc j))
  n2 : 0 < E.nc → T.A 2 = some ⟨T.b 2, T.o 2, none⟩
  b2 : 0 < E.nc → T.b 2 < B
  d2 : ∀ j, j < E.nc → W.cell? ⟨T.b 2, T.o 2 + j, none⟩ = some (.int .i64 (D.next j))
  n4 : 0 < E.n → T.A 4 = some ⟨T.b 4, T.o 4, none⟩
  b4 : 0 < E.n → T.b 4 < B
  d4 : ∀ j, j < E.n → W.cell? ⟨T.b 4, T.o 4 + j, none⟩ = some (.bool (D.placed j))
  n5 : 0 < E.nv → T.A 5 = some ⟨T.b 5, T.o 5, none⟩
  b5 : 0 < E.nv → T.b 5 < B
  d5 : ∀ j, j < E.nv → W.cell? ⟨T.b 5, T.o 5 + j, none⟩ = some (.int .i32 (D.current j))
  n6 : 0 < E.n → T.A 6 = some ⟨T.b 6, T.o 6, none⟩
  b6 : 0 < E.n → T.b 6 < B
  d6 : ∀ j, j < E.n → W.cell? ⟨T.b 6, T.o 6 + j, none⟩ = some (.int .i32 (D.awaiting j))
  n7 : 0 < E.n → T.A 7 = some ⟨T.b 7, T.o 7, none⟩
  b7 : 0 < E.n → T.b 7 < B
  d7 : ∀ j, j < E.n → W.cell? ⟨T.b 7, T.o 7 + j, none⟩ = some (.bool (E.awaited j))
  n8 : 0 < E.nv → T.A 8 = some ⟨T.b 8, T.o 8, none⟩
  b8 : 0 < E.nv → T.b 8 < B
  d8 : ∀ j, j < E.nv → W.cell? ⟨T.b 8, T.o 8 + j, none⟩ = some (.int .i32 (D.holders j))
  n9 : 0 < E.nv → T.A 9 = some ⟨T.b 9, T.o 9, none⟩
  b9 : 0 < E.nv → T.b 9 < B
  d9 : ∀ j, j < E.nv → W.cell? ⟨T.b 9, T.o 9 + j, none⟩ = some (.int .i64 (D.holderSum j))
  n10 : 0 < E.n → T.A 10 = some ⟨T.b 10, T.o 10, none⟩
  b10 : 0 < E.n → T.b 10 < B
  d10 : ∀ j, j < E.n → W.cell? ⟨T.b 10, T.o 10 + j, none⟩ = some (.bool (E.lastWrite j))
  n11 : 0 < E.nv → T.A 11 = some ⟨T.b 11, T.o 11, none⟩
  b11 : 0 < E.nv → T.b 11 < B
  d11 : ∀ j, j < E.nv → W.cell? ⟨T.b 11, T.o 11 + j, none⟩ = some (.int .i32 (D.initial j))
  n12 : 0 < E.nv → T.A 12 = some ⟨T.b 12, T.o 12, none⟩
  b12 : 0 < E.nv → T.b 12 < B
  d12 : ∀ j, j < E.nv → W.cell? ⟨T.b 12, T.o 12 + j, none⟩ = some (.int .i32 (D.K.first j))
  n13 : 0 < E.nc → T.A 13 = some ⟨T.b 13, T.o 13, none⟩
  b13 : 0 < E.nc → T.b 13 < B
  d13 : ∀ j, j < E.nc → W.cell? ⟨T.b 13, T.o 13 + j, none⟩ = some (.int .i32 (D.K.nx j))
  n14 : 0 < E.nc → T.A 14 = some ⟨T.b 14, T.o 14, none⟩
  b14 : 0 < E.nc → T.b 14 < B
  d14 : ∀ j, j < E.nc → W.cell? ⟨T.b 14, T.o 14 + j, none⟩ = some (.int .i32 (D.K.pv j))
  n15 : 0 < E.nc → T.A 15 = some ⟨T.b 15, T.o 15, none⟩
  b15 : 0 < E.nc → T.b 15 < B
  d15 : ∀ j, j < E.nc → W.cell? ⟨T.b 15, T.o 15 + j, none⟩ = some (.int .i32 (D.K.of j))
  n16 : 0 < E.nl → T.A 16 = some ⟨T.b 16, T.o 16, none⟩
  b16 : 0 < E.nl → T.b 16 < B
  d16 : ∀ j, j < E.nl → W.cell? ⟨T.b 16, T.o 16 + j, none⟩ = some (.slice (T.lA j) (E.ll j) (T.lc j))
  cn : ∀ c, c < E.nc → 0 < E.cl c → T.cA c = some ⟨T.cb c, T.co c, none⟩
  cB : ∀ c, c < E.nc → 0 < E.cl c → T.cb c < B
  cd : ∀ c, c < E.nc → ∀ k, k < E.cl c → W.cell? ⟨T.cb c, T.co c + k, none⟩ = some (.int .i32 (E.ch c k))
  ln : ∀ l, l < E.nl → 0 < E.ll l → T.lA l = some ⟨T.lb l, T.lo l, none⟩
  lB : ∀ l, l < E.nl → 0 < E.ll l → T.lb l < B
  ld : ∀ l, l < E.nl → ∀ i, i < E.ll l → W.cell? ⟨T.lb l, T.lo l + i, none⟩ = some (.int .u64 (D.lw l i : Nat))
  on : 0 < E.n → T.oA = some ⟨T.ob, T.oo, none⟩
  oB : 0 < E.n → T.ob < B
  o0 : ∀ i, i < E.n → W.cell? ⟨T.ob, T.oo + i * 6, none⟩ = some (.int .i32 (E.proc i))
  o1 : ∀ i, i < E.n → ∃ x, W.cell? ⟨T.ob, T.oo + i * 6 + 1, none⟩ = some (.int .i32 x) ∧ i32 x
  o2 : ∀ i, i < E.n → W.cell? ⟨T.ob, T.oo + i * 6 + 2, none⟩ = some (.bool (E.wr i))
  o3 : ∀ i, i < E.n → W.cell? ⟨T.ob, T.oo + i * 6 + 3, none⟩ = some (.int .i32 (E.vv i))
  o4 : ∀ i, i < E.n → ∃ s, W.cell? ⟨T.ob, T.oo + i * 6 + 4, none⟩ = some (.string s) ∧ s.size ≤ maxLen
  o5 : ∀ i, i < E.n → W.cell? ⟨T.ob, T.oo + i * 6 + 5, none⟩ = some (.int .i32 (E.src i))
  r_proc : ∀ i, i < E.n → i32 (E.proc i)
  r_vv : ∀ i, i < E.n → i32 (E.vv i)
  r_src : ∀ i, i < E.n → i32 (E.src i)
  r_ch : ∀ c, c < E.nc → ∀ k, k < E.cl c → i32 (E.ch c k)
  r_next : ∀ c, c < E.nc → i64 (D.next c)
  r_tp : i64 D.toPlace
  r_only : i32 E.only
  r_cur : ∀ v, v < E.nv → i32 (D.current v)
  r_aw : ∀ i, i < E.n → i32 (D.awaiting i)
  r_ho : ∀ v, v < E.nv → i32 (D.holders v)
  r_hs : ∀ v, v < E.nv → i64 (D.holderSum v)
  r_in : ∀ v, v < E.nv → i32 (D.initial v)
  r_f : ∀ v, v < E.nv → i32 (D.K.first v)
  r_n : ∀ c, c < E.nc → i32 (D.K.nx c)
  r_p : ∀ c, c < E.nc → i32 (D.K.pv c)
  r_o : ∀ c, c < E.nc → i32 (D.K.of c)
  r_lw : ∀ l, l < E.nl → ∀ i, i < E.ll l → D.lw l i < 2 ^ 64
  r_seed : E.seed < 2 ^ 64
  r_hash : D.hash < 2 ^ 64
  m_n : E.n ≤ 4096
  m_c : E.nc ≤ 4096
  m_v : E.nv ≤ 4096
  m_cl : ∀ c, c < E.nc → E.cl c ≤ 1048576
  m_nl : E.nl ≤ 1048576
  m_ll : ∀ l, l < E.nl → E.ll l ≤ 1048576

theorem Rd.below {W w : World} {B : Nat} {T : Ad} {E : Env} {D : Dyn} (h : Rd W B T E D) (k : Below B W w) : Rd w B T E D :=
  { h with
    d1 := fun j hj => (k.cell (p := ⟨T.b 1, T.o 1 + j, none⟩) (h.b1 (Nat.zero_lt_of_lt hj))).trans (h.d1 j hj)
    d2 := fun j hj => (k.cell (p := ⟨T.b 2, T.o 2 + j, none⟩) (h.b2 (Nat.zero_lt_of_lt hj))).trans (h.d2 j hj)
    d4 := fun j hj => (k.cell (p := ⟨T.b 4, T.o 4 + j, none⟩) (h.b4 (Nat.zero_lt_of_lt hj))).trans (h.d4 j hj)
    d5 := fun j hj => (k.cell (p := ⟨T.b 5, T.o 5 + j, none⟩) (h.b5 (Nat.zero_lt_of_lt hj))).trans (h.d5 j hj)
    d6 := fun j hj => (k.cell (p := ⟨T.b 6, T.o 6 + j, none⟩) (h.b6 (Nat.zero_lt_of_lt hj))).trans (h.d6 j hj)
    d7 := fun j hj => (k.cell (p := ⟨T.b 7, T.o 7 + j, none⟩) (h.b7 (Nat.zero_lt_of_lt hj))).trans (h.d7 j hj)
    d8 := fun j hj => (k.cell (p := ⟨T.b 8, T.o 8 + j, none⟩) (h.b8 (Nat.zero_lt_of_lt hj))).trans (h.d8 j hj)
    d9 := fun j hj => (k.cell (p := ⟨T.b 9, T.o 9 + j, none⟩) (h.b9 (Nat.zero_lt_of_lt hj))).trans (h.d9 j hj)
    d10 := fun j hj => (k.cell (p := ⟨T.b 10, T.o 10 + j, none⟩) (h.b10 (Nat.zero_lt_of_lt hj))).trans (h.d10 j hj)
    d11 := fun j hj => (k.cell (p := ⟨T.b 11, T.o 11 + j, none⟩) (h.b11 (Nat.zero_lt_of_lt hj))).trans (h.d11 j hj)
    d12 := fun j hj => (k.cell (p := ⟨T.b 12, T.o 12 + j, none⟩) (h.b12 (Nat.zero_lt_of_lt hj))).trans (h.d12 j hj)
    d13 := fun j hj => (k.cell (p := ⟨T.b 13, T.o 13 + j, none⟩) (h.b13 (Nat.zero_lt_of_lt hj))).trans (h.d13 j hj)
    d14 := fun j hj => (k.cell (p := ⟨T.b 14, T.o 14 + j, none⟩) (h.b14 (Nat.zero_lt_of_lt hj))).trans (h.d14 j hj)
    d15 := fun j hj => (k.cell (p := ⟨T.b 15, T.o 15 + j, none⟩) (h.b15 (Nat.zero_lt_of_lt hj))).trans (h.d15 j hj)
    d16 := fun j hj => (k.cell (p := ⟨T.b 16, T.o 16 + j, none⟩) (h.b16 (Nat.zero_lt_of_lt hj))).trans (h.d16 j hj)
    cd := fun c hc j hj => (k.cell (p := ⟨T.cb c, T.co c + j, none⟩) (h.cB c hc (Nat.zero_lt_of_lt hj))).trans (h.cd c hc j hj)
    ld := fun c hc j hj => (k.cell (p := ⟨T.lb c, T.lo c + j, none⟩) (h.lB c hc (Nat.zero_lt_of_lt hj))).trans (h.ld c hc j hj)
    o0 := fun j hj => (k.cell (p := ⟨T.ob, T.oo + j * 6, none⟩) (h.oB (Nat.zero_lt_of_lt hj))).trans (h.o0 j hj)
    o1 := fun j hj => by rw [k.cell (p := ⟨T.ob, T.oo + j * 6 + 1, none⟩) (h.oB (Nat.zero_lt_of_lt hj))]; exact h.o1 j hj
    o2 := fun j hj => (k.cell (p := ⟨T.ob, T.oo + j * 6 + 2, none⟩) (h.oB (Nat.zero_lt_of_lt hj))).trans (h.o2 j hj)
    o3 := fun j hj => (k.cell (p := ⟨T.ob, T.oo + j * 6 + 3, none⟩) (h.oB (Nat.zero_lt_of_lt hj))).trans (h.o3 j hj)
    o4 := fun j hj => by rw [k.cell (p := ⟨T.ob, T.oo + j * 6 + 4, none⟩) (h.oB (Nat.zero_lt_of_lt hj))]; exact h.o4 j hj
    o5 := fun j hj => (k.cell (p := ⟨T.ob, T.oo + j * 6 + 5, none⟩) (h.oB (Nat.zero_lt_of_lt hj))).trans (h.o5 j hj) }

/-- The struct's own block. -/
def Sb (w : World) (S : Nat) (T : Ad) (E : Env) (D : Dyn) : Prop := ∀ i, i < 19 → w.cell? ⟨S, i, none⟩ = some ((sval T E D).getD i undef)
theorem Sb.below {W w : World} {B S : Nat} {T : Ad} {E : Env} {D : Dyn} (h : Sb W S T E D) (k : Below B W w) (hS : S < B) : Sb w S T E D := fun i hi => (k.cell (p := ⟨S, i, none⟩) hS).trans (h i hi)
end Go.Proofs.Qxb6616080a
