/- THE ARGUMENTS OPENED. -/
import Derived.Test.Qxb6616080aIn
import Derived.ProofKit
import Derived.OpenShut
import Derived.ShutString
import Derived.ChangeOld
import Derived.Below
import Derived.Deep.Fields
import Derived.Deep.Slices
namespace Go.Proofs.Qxb6616080a
open Go.RowKit Go.ChangeShapes Go.WideShapes
set_option linter.unusedVariables false
set_option linter.unusedSimpArgs false
set_option maxRecDepth 100000

/-- A slice and what it holds. -/
structure Ch (β : Type) where
  A : Option Addr
  l : Nat
  c : Nat
  b : Nat
  o : Nat
  d : Nat → β
def Ch.v {β : Type} (s : Ch β) : Value := .slice s.A s.l s.c
structure Ch.ok {β : Type} (w : World) (val : β → Value) (good : β → Prop) (s : Ch β) : Prop where
  z : s.A = none → s.l = 0 ∧ s.c = 0
  n : 0 < s.l → s.A = some ⟨s.b, s.o, none⟩
  x : ∀ j, j < s.l → w.cell? ⟨s.b, s.o + j, none⟩ = some (val (s.d j))
  g : ∀ j, j < s.l → good (s.d j)
  m : s.l ≤ maxLen

theorem wf_u64 {n : Int} (h : (Lit.int .u64 n).wf = true) : ∃ k : Nat, n = (k : Int) ∧ k < 2 ^ 64 := by
  have h' : (decide (IntKind.u64.min ≤ n) && decide (n ≤ IntKind.u64.max)) = true := h
  simp only [Bool.and_eq_true, decide_eq_true_eq] at h'
  have e1 : IntKind.u64.min = 0 := by decide
  have e2 : IntKind.u64.max = 18446744073709551615 := by decide
  exact ⟨n.toNat, by omega, by omega⟩
theorem wf_i32 {n : Int} (h : (Lit.int .i32 n).wf = true) : i32 n := by
  have h' : (decide (IntKind.i32.min ≤ n) && decide (n ≤ IntKind.i32.max)) = true := h
  simp only [Bool.and_eq_true, decide_eq_true_eq] at h'
  have e1 : IntKind.i32.min = -2147483648 := by decide
  have e2 : IntKind.i32.max = 2147483647 := by decide
  unfold i32; omega
theorem wf_i64 {n : Int} (h : (Lit.int .i64 n).wf = true) : i64 n := by
  have h' : (decide (IntKind.i64.min ≤ n) && decide (n ≤ IntKind.i64.max)) = true := h
  simp only [Bool.and_eq_true, decide_eq_true_eq] at h'
  have e1 : IntKind.i64.min = -9223372036854775808 := by decide
  have e2 : IntKind.i64.max = 9223372036854775807 := by decide
  unfold i64; omega
theorem spot_none {w : World} {x : Addr} {v : Value} (h : w.cell? (x.add 0) = some v) : ∃ b off, x = ⟨b, off, none⟩ := by
  obtain ⟨b, off, spot⟩ := x
  have hspot : spot = none := by simpa [Addr.add] using World.cell?_spot h
  subst hspot
  exact ⟨b, off, rfl⟩

section
variable {H : Type} {enc : TypeId × Value → H} {P : Program} {w : World} {base : Nat} {spare : Nat → Bool} {held : Bool}

theorem open_row {β : Type} [Inhabited β] (val : β → Value) (good : β → Prop) {t e : TypeId} {fuel : Nat} {v : Value} {x : DataW H × List MemPlace} (ht : P.underlying t = some (.slice e)) (hc : P.cellsOf e = 1)
    (hel : ∀ n u y, DataW.trod enc P w base spare held n e [u] = some y → ∃ a : β, u = val a ∧ good a)
    (h : DataW.trod enc P w base spare held fuel t [v] = some x) : ∃ s : Ch β, v = s.v ∧ s.ok w val good := by
  rcases Deep.open_slice1 ht hc h with ⟨hcs, _⟩ | ⟨a, len, cap, m, n, V, D, Pl, hcs, hb, hl, hm, hmm, _, hx⟩
  · simp at hcs
    exact ⟨⟨none, 0, 0, 0, 0, fun _ => default⟩, hcs, ⟨fun _ => ⟨rfl, rfl⟩, fun h => absurd h (Nat.lt_irrefl 0), fun j hj => absurd hj (Nat.not_lt_zero j), fun j hj => absurd hj (Nat.not_lt_zero j), Nat.zero_le _⟩⟩
  · simp at hcs
    have hlm : len ≤ m := by rw [hmm]; split <;> omega
    by_cases h0 : 0 < len
    · obtain ⟨b, off, rfl⟩ := spot_none (hx 0 (by omega)).1
      obtain ⟨f, hf⟩ := Deep.choose_lt (α := β) (n := len) (p := fun i a => V i = val a ∧ good a) (fun i hi => hel n _ _ (hx i (by omega)).2)
      refine ⟨⟨some ⟨b, off, none⟩, len, cap, b, off, f⟩, hcs, ⟨fun h => (by cases h), fun _ => rfl, fun j hj => ?_, fun j hj => (hf j hj).2, Nat.le_trans hl hm⟩⟩
      have := (hx j (Nat.lt_of_lt_of_le hj hlm)).1
      rw [Addr.add_lit] at this
      rw [this, (hf j hj).1]
    · refine ⟨⟨some a, len, cap, 0, 0, fun _ => default⟩, hcs, ⟨fun h => (by cases h), fun h => absurd h h0, fun j hj => absurd (Nat.zero_lt_of_lt hj) h0, fun j hj => absurd (Nat.zero_lt_of_lt hj) h0, Nat.le_trans hl hm⟩⟩

theorem open_fields {ts : TypeId} {fs : Array Field} {fuel : Nat} {cs : List Value} {x : DataW H × List MemPlace} (hs : P.underlying ts = some (.struct fs))
    (hone : ∀ (i : Nat) (f : Field), fs[i]? = some f → f.offset = i ∧ P.cellsOf f.type = 1) (hC : P.cellsOf ts = fs.size) (h : DataW.trod enc P w base spare held fuel ts cs = some x) :
    cs.length = fs.size ∧ ∃ n, ∀ (i : Nat) (f : Field), fs[i]? = some f → ∃ y, DataW.trod enc P w base spare held n f.type [cs.getD i undef] = some y := by
  obtain ⟨xs, n, _, _, hlen, hxl, hf⟩ := DataW.trod_struct hs h
  rw [hC] at hlen
  refine ⟨hlen, n, fun i f hi => ?_⟩
  have hlt : i < fs.size := (Array.getElem?_eq_some_iff.1 hi).1
  obtain ⟨ho, hc1⟩ := hone i f hi
  have g := hf i f hi
  rw [ho, hc1, Deep.take1_drop cs i undef (by omega), List.getElem?_eq_getElem (by omega)] at g
  exact ⟨_, g⟩
end

section
variable {H : Type} {enc : TypeId × Value → H} {w : World} {base : Nat} {spare : Nat → Bool} {held : Bool} {fuel : Nat} {v : Value} {x : DataW H × List MemPlace}
theorem el_i32 (n : Nat) (u : Value) (y : DataW H × List MemPlace) (h : DataW.trod enc Try.prog w base spare held n 21 [u] = some y) : ∃ a : Int, u = .int .i32 a ∧ i32 a := by
  obtain ⟨a, e, _, hw⟩ := DataW.trod_int Try.underlying21 h
  simp at e
  exact ⟨a, e, wf_i32 hw⟩
theorem el_i64 (n : Nat) (u : Value) (y : DataW H × List MemPlace) (h : DataW.trod enc Try.prog w base spare held n 3 [u] = some y) : ∃ a : Int, u = .int .i64 a ∧ i64 a := by
  obtain ⟨a, e, _, hw⟩ := DataW.trod_int Try.underlying3 h
  simp at e
  exact ⟨a, e, wf_i64 hw⟩
theorem el_u64 (n : Nat) (u : Value) (y : DataW H × List MemPlace) (h : DataW.trod enc Try.prog w base spare held n 28 [u] = some y) : ∃ a : Nat, u = .int .u64 (a : Nat) ∧ a < 2 ^ 64 := by
  obtain ⟨a, e, _, hw⟩ := DataW.trod_int Try.underlying28 h
  simp at e
  obtain ⟨k, rfl, hk⟩ := wf_u64 hw
  exact ⟨k, e, hk⟩
theorem el_bool (n : Nat) (u : Value) (y : DataW H × List MemPlace) (h : DataW.trod enc Try.prog w base spare held n 4 [u] = some y) : ∃ a : Bool, u = .bool a ∧ True := by
  obtain ⟨a, e, _⟩ := DataW.trod_bool Try.underlying4 h
  simp at e
  exact ⟨a, e, trivial⟩
theorem open_i32s (h : DataW.trod enc Try.prog w base spare held fuel 26 [v] = some x) : ∃ s : Ch Int, v = s.v ∧ s.ok w (.int .i32) i32 := open_row (.int .i32) i32 Try.underlying26 (by kernel_rfl) el_i32 h
theorem open_i64s (h : DataW.trod enc Try.prog w base spare held fuel 24 [v] = some x) : ∃ s : Ch Int, v = s.v ∧ s.ok w (.int .i64) i64 := open_row (.int .i64) i64 Try.underlying24 (by kernel_rfl) el_i64 h
theorem open_bools' (h : DataW.trod enc Try.prog w base spare held fuel 25 [v] = some x) : ∃ s : Ch Bool, v = s.v ∧ s.ok w .bool (fun _ => True) := open_row .bool (fun _ => True) Try.underlying25 (by kernel_rfl) el_bool h
theorem open_u64s (h : DataW.trod enc Try.prog w base spare held fuel 44 [v] = some x) : ∃ s : Ch Nat, v = s.v ∧ s.ok w (fun k => .int .u64 (k : Nat)) (fun k => k < 2 ^ 64) := open_row (fun k => .int .u64 (k : Nat)) (fun k => k < 2 ^ 64) Try.underlying44 (by kernel_rfl) el_u64 h
theorem open_chains (h : DataW.trod enc Try.prog w base spare held fuel 23 [v] = some x) : ∃ s : Ch (Ch Int), v = s.v ∧ s.ok w Ch.v (fun r => r.ok w (.int .i32) i32) :=
  @open_row H enc Try.prog w base spare held (Ch Int) ⟨⟨none, 0, 0, 0, 0, fun _ => 0⟩⟩ Ch.v (fun r => r.ok w (.int .i32) i32) 23 26 fuel v x Try.underlying23 (by kernel_rfl) (fun n u y hy => open_i32s hy) h
theorem open_levels (h : DataW.trod enc Try.prog w base spare held fuel 27 [v] = some x) : ∃ s : Ch (Ch Nat), v = s.v ∧ s.ok w Ch.v (fun r => r.ok w (fun k => .int .u64 (k : Nat)) (fun k => k < 2 ^ 64)) :=
  @open_row H enc Try.prog w base spare held (Ch Nat) ⟨⟨none, 0, 0, 0, 0, fun _ => 0⟩⟩ Ch.v (fun r => r.ok w (fun k => .int .u64 (k : Nat)) (fun k => k < 2 ^ 64)) 27 44 fuel v x Try.underlying27 (by kernel_rfl) (fun n u y hy => open_u64s hy) h

/-- An operation. -/
structure OpD where
  proc : Int
  pos : Int
  wr : Bool
  vv : Int
  st : ByteArray
  src : Int
def OpD.vals (p : OpD) : List Value := [.int .i32 p.proc, .int .i32 p.pos, .bool p.wr, .int .i32 p.vv, .string p.st, .int .i32 p.src]
structure OpD.ok (p : OpD) : Prop where
  proc : i32 p.proc
  pos : i32 p.pos
  vv : i32 p.vv
  st : p.st.size ≤ maxLen
  src : i32 p.src

theorem open_op {cs : List Value} (h : DataW.trod enc Try.prog w base spare held fuel 42 cs = some x) : ∃ p : OpD, cs = p.vals ∧ p.ok := by
  obtain ⟨hlen, n, hf⟩ := open_fields Try.underlying42 (Deep.hone_of (by kernel_rfl)) (by kernel_rfl) h
  obtain ⟨y0, g0⟩ := hf 0 _ rfl
  obtain ⟨proc, e0, r0⟩ := el_i32 n _ _ g0
  obtain ⟨y1, g1⟩ := hf 1 _ rfl
  obtain ⟨pos, e1, r1⟩ := el_i32 n _ _ g1
  obtain ⟨y2, g2⟩ := hf 2 _ rfl
  obtain ⟨wr, e2, r2⟩ := el_bool n _ _ g2
  obtain ⟨y3, g3⟩ := hf 3 _ rfl
  obtain ⟨vv, e3, r3⟩ := el_i32 n _ _ g3
  obtain ⟨y4, g4⟩ := hf 4 _ rfl
  obtain ⟨st, e4, -, r4⟩ := DataW.trod_string Try.underlying9 g4
  obtain ⟨y5, g5⟩ := hf 5 _ rfl
  obtain ⟨src, e5, r5⟩ := el_i32 n _ _ g5
  have hl : cs.length = 6 := hlen
  simp at e4
  match cs, hl with
  | [c0, c1, c2, c3, c4, c5], _ =>
    simp at e0 e1 e2 e3 e4 e5
    subst e0 e1 e2 e3 e4 e5
    exact ⟨⟨proc, pos, wr, vv, st, src⟩, rfl, ⟨r0, r1, r3, r4, r5⟩⟩

/-- The operations. -/
structure Ops (w : World) (s : Ch OpD) : Prop where
  n : 0 < s.l → s.A = some ⟨s.b, s.o, none⟩
  x : ∀ i, i < s.l → ∀ j, j < 6 → w.cell? ⟨s.b, s.o + i * 6 + j, none⟩ = (s.d i).vals[j]?
  g : ∀ i, i < s.l → (s.d i).ok
  m : s.l ≤ maxLen
theorem open_ops (h : DataW.trod enc Try.prog w base spare held fuel 22 [v] = some x) : ∃ s : Ch OpD, v = s.v ∧ Ops w s := by
  rcases Deep.open_slice Try.underlying22 h with ⟨hcs, _⟩ | ⟨a, len, cap, m, n, D, Pl, hcs, hb, hl, hm, hmm, _, hx⟩
  · simp at hcs
    exact ⟨⟨none, 0, 0, 0, 0, fun _ => ⟨0, 0, false, 0, ByteArray.empty, 0⟩⟩, hcs, ⟨fun h => absurd h (Nat.lt_irrefl 0), fun j hj => absurd hj (Nat.not_lt_zero j), fun j hj => absurd hj (Nat.not_lt_zero j), Nat.zero_le _⟩⟩
  · simp at hcs
    have hlm : len ≤ m := by rw [hmm]; split <;> omega
    have h6 : Try.prog.cellsOf 42 = 6 := by kernel_rfl
    rw [h6] at hx
    by_cases h0 : 0 < len
    · have each : ∀ i, i < len → ∃ p : OpD, (∀ j, j < 6 → w.cell? (a.add (i * 6 + j)) = p.vals[j]?) ∧ p.ok := by
        intro i hi
        obtain ⟨cs', h1, h2⟩ := hx i (by omega)
        obtain ⟨_, hlen, hcell⟩ := World.cells?_some h1
        obtain ⟨p, hv, hok⟩ := open_op h2
        refine ⟨p, fun j hj => ?_, hok⟩
        rw [← Deep.add_add, hcell j hj, hv]
      obtain ⟨p0, hp0, -⟩ := each 0 h0
      obtain ⟨b, off, rfl⟩ : ∃ b off, a = ⟨b, off, none⟩ := by
        have h00 : w.cell? (a.add 0) = some (.int .i32 p0.proc) := hp0 0 (by omega)
        exact spot_none h00
      obtain ⟨f, hf⟩ := @Deep.choose_lt OpD ⟨p0⟩ len _ each
      refine ⟨⟨some ⟨b, off, none⟩, len, cap, b, off, f⟩, hcs, ⟨fun _ => rfl, fun i hi j hj => ?_, fun i hi => (hf i hi).2, Nat.le_trans hl hm⟩⟩
      have := (hf i hi).1 j hj
      rw [Addr.add_lit, ← Nat.add_assoc] at this
      exact this
    · exact ⟨⟨some a, len, cap, 0, 0, fun _ => ⟨0, 0, false, 0, ByteArray.empty, 0⟩⟩, hcs, ⟨fun h => absurd h h0, fun j hj => absurd (Nat.zero_lt_of_lt hj) h0, fun j hj => absurd (Nat.zero_lt_of_lt hj) h0, Nat.le_trans hl hm⟩⟩
end

/-- The search as it was read. -/
structure SeD where
  only : Int
  s1 : Ch (Ch Int)
  s2 : Ch Int
  s4 : Ch Bool
  s5 : Ch Int
  s6 : Ch Int
  s7 : Ch Bool
  s8 : Ch Int
  s9 : Ch Int
  s10 : Ch Bool
  s11 : Ch Int
  s12 : Ch Int
  s13 : Ch Int
  s14 : Ch Int
  s15 : Ch Int
  s16 : Ch (Ch Nat)
  tp : Int
  seed : Nat
  hash : Nat
structure SeD.ok (w : World) (S : SeD) : Prop where
  only : i32 S.only
  s1 : S.s1.ok w Ch.v (fun r => r.ok w (.int .i32) i32)
  s2 : S.s2.ok w (.int .i64) i64
  s4 : S.s4.ok w .bool (fun _ => True)
  s5 : S.s5.ok w (.int .i32) i32
  s6 : S.s6.ok w (.int .i32) i32
  s7 : S.s7.ok w .bool (fun _ => True)
  s8 : S.s8.ok w (.int .i32) i32
  s9 : S.s9.ok w (.int .i64) i64
  s10 : S.s10.ok w .bool (fun _ => True)
  s11 : S.s11.ok w (.int .i32) i32
  s12 : S.s12.ok w (.int .i32) i32
  s13 : S.s13.ok w (.int .i32) i32
  s14 : S.s14.ok w (.int .i32) i32
  s15 : S.s15.ok w (.int .i32) i32
  s16 : S.s16.ok w Ch.v (fun r => r.ok w (fun k => .int .u64 (k : Nat)) (fun k => k < 2 ^ 64))
  tp : i64 S.tp
  seed : S.seed < 2 ^ 64
  hash : S.hash < 2 ^ 64
def SeD.fA (S : SeD) : Nat → Option Addr
  | 1 => S.s1.A
  | 2 => S.s2.A
  | 4 => S.s4.A
  | 5 => S.s5.A
  | 6 => S.s6.A
  | 7 => S.s7.A
  | 8 => S.s8.A
  | 9 => S.s9.A
  | 10 => S.s10.A
  | 11 => S.s11.A
  | 12 => S.s12.A
  | 13 => S.s13.A
  | 14 => S.s14.A
  | 15 => S.s15.A
  | 16 => S.s16.A
  | _ => none
def SeD.fL (S : SeD) : Nat → Nat
  | 1 => S.s1.l
  | 2 => S.s2.l
  | 4 => S.s4.l
  | 5 => S.s5.l
  | 6 => S.s6.l
  | 7 => S.s7.l
  | 8 => S.s8.l
  | 9 => S.s9.l
  | 10 => S.s10.l
  | 11 => S.s11.l
  | 12 => S.s12.l
  | 13 => S.s13.l
  | 14 => S.s14.l
  | 15 => S.s15.l
  | 16 => S.s16.l
  | _ => 0
def SeD.fb (S : SeD) : Nat → Nat
  | 1 => S.s1.b
  | 2 => S.s2.b
  | 4 => S.s4.b
  | 5 => S.s5.b
  | 6 => S.s6.b
  | 7 => S.s7.b
  | 8 => S.s8.b
  | 9 => S.s9.b
  | 10 => S.s10.b
  | 11 => S.s11.b
  | 12 => S.s12.b
  | 13 => S.s13.b
  | 14 => S.s14.b
  | 15 => S.s15.b
  | 16 => S.s16.b
  | _ => 0
def SeD.fo (S : SeD) : Nat → Nat
  | 1 => S.s1.o
  | 2 => S.s2.o
  | 4 => S.s4.o
  | 5 => S.s5.o
  | 6 => S.s6.o
  | 7 => S.s7.o
  | 8 => S.s8.o
  | 9 => S.s9.o
  | 10 => S.s10.o
  | 11 => S.s11.o
  | 12 => S.s12.o
  | 13 => S.s13.o
  | 14 => S.s14.o
  | 15 => S.s15.o
  | 16 => S.s16.o
  | _ => 0
def SeD.fc (S : SeD) : Nat → Nat
  | 1 => S.s1.c
  | 2 => S.s2.c
  | 4 => S.s4.c
  | 5 => S.s5.c
  | 6 => S.s6.c
  | 7 => S.s7.c
  | 8 => S.s8.c
  | 9 => S.s9.c
  | 10 => S.s10.c
  | 11 => S.s11.c
  | 12 => S.s12.c
  | 13 => S.s13.c
  | 14 => S.s14.c
  | 15 => S.s15.c
  | 16 => S.s16.c
  | _ => 0
def adOf (O : Ch OpD) (S : SeD) : Ad := { A := S.fA, b := S.fb, o := S.fo, cap := S.fc, cA := fun c => (S.s1.d c).A, cb := fun c => (S.s1.d c).b, co := fun c => (S.s1.d c).o, cc := fun c => (S.s1.d c).c, lA := fun l => (S.s16.d l).A, lb := fun l => (S.s16.d l).b, lo := fun l => (S.s16.d l).o, lc := fun l => (S.s16.d l).c, oA := O.A, ob := O.b, oo := O.o, oc := O.c }
def envOf (O : Ch OpD) (S : SeD) : Env := { n := O.l, nc := S.s1.l, nv := S.s5.l, proc := fun i => (O.d i).proc, wr := fun i => (O.d i).wr, vv := fun i => (O.d i).vv, src := fun i => (O.d i).src, only := S.only, cl := fun c => (S.s1.d c).l, ch := fun c k => (S.s1.d c).d k, seed := S.seed, nl := S.s16.l, ll := fun l => (S.s16.d l).l, awaited := S.s7.d, lastWrite := S.s10.d }
def dynOf (S : SeD) : Dyn := { next := S.s2.d, toPlace := S.tp, placed := S.s4.d, current := S.s5.d, awaiting := S.s6.d, holders := S.s8.d, holderSum := S.s9.d, initial := S.s11.d, K := { first := S.s12.d, nx := S.s13.d, pv := S.s14.d, of := S.s15.d }, lw := fun l i => (S.s16.d l).d i, hash := S.hash }

theorem in_of {w : World} {O : Ch OpD} {S : SeD} (hO : Ops w O) (h : S.ok w) : In w (adOf O S) S.fL (envOf O S) (dynOf S) where
  e1 := rfl
  e5 := rfl
  e16 := rfl
  row := fun i h1 h2 h3 => by
    have hc : i = 1 ∨ i = 2 ∨ i = 4 ∨ i = 5 ∨ i = 6 ∨ i = 7 ∨ i = 8 ∨ i = 9 ∨ i = 10 ∨ i = 11 ∨ i = 12 ∨ i = 13 ∨ i = 14 ∨ i = 15 ∨ i = 16 := by omega
    rcases hc with rfl | rfl | rfl | rfl | rfl | rfl | rfl | rfl | rfl | rfl | rfl | rfl | rfl | rfl | rfl
    · exact ⟨h.s1.z, h.s1.n, h.s1.x⟩
    · exact ⟨h.s2.z, h.s2.n, h.s2.x⟩
    · exact ⟨h.s4.z, h.s4.n, h.s4.x⟩
    · exact ⟨h.s5.z, h.s5.n, h.s5.x⟩
    · exact ⟨h.s6.z, h.s6.n, h.s6.x⟩
    · exact ⟨h.s7.z, h.s7.n, h.s7.x⟩
    · exact ⟨h.s8.z, h.s8.n, h.s8.x⟩
    · exact ⟨h.s9.z, h.s9.n, h.s9.x⟩
    · exact ⟨h.s10.z, h.s10.n, h.s10.x⟩
    · exact ⟨h.s11.z, h.s11.n, h.s11.x⟩
    · exact ⟨h.s12.z, h.s12.n, h.s12.x⟩
    · exact ⟨h.s13.z, h.s13.n, h.s13.x⟩
    · exact ⟨h.s14.z, h.s14.n, h.s14.x⟩
    · exact ⟨h.s15.z, h.s15.n, h.s15.x⟩
    · exact ⟨h.s16.z, h.s16.n, h.s16.x⟩
  chn := fun c hc => ⟨(h.s1.g c hc).z, (h.s1.g c hc).n, (h.s1.g c hc).x⟩
  lvl := fun l hl => ⟨(h.s16.g l hl).z, (h.s16.g l hl).n, (h.s16.g l hl).x⟩
  on := hO.n
  o0 := fun i hi => hO.x i hi 0 (by omega)
  o1 := fun i hi => ⟨_, hO.x i hi 1 (by omega), (hO.g i hi).pos⟩
  o2 := fun i hi => hO.x i hi 2 (by omega)
  o3 := fun i hi => hO.x i hi 3 (by omega)
  o4 := fun i hi => ⟨_, hO.x i hi 4 (by omega), (hO.g i hi).st⟩
  o5 := fun i hi => hO.x i hi 5 (by omega)
  r_proc := fun i hi => (hO.g i hi).proc
  r_vv := fun i hi => (hO.g i hi).vv
  r_src := fun i hi => (hO.g i hi).src
  r_ch := fun c hc k hk => (h.s1.g c hc).g k hk
  r_only := h.only
  r_next := fun j hj => h.s2.g j hj
  r_tp := h.tp
  r_cur := fun j hj => h.s5.g j hj
  r_aw := fun j hj => h.s6.g j hj
  r_ho := fun j hj => h.s8.g j hj
  r_hs := fun j hj => h.s9.g j hj
  r_in := fun j hj => h.s11.g j hj
  r_f := fun j hj => h.s12.g j hj
  r_n := fun j hj => h.s13.g j hj
  r_p := fun j hj => h.s14.g j hj
  r_o := fun j hj => h.s15.g j hj
  r_lw := fun l hl i hi => (h.s16.g l hl).g i hi
  r_seed := h.seed
  r_hash := h.hash
  ml := fun i => by
    unfold SeD.fL
    split
    · exact h.s1.m
    · exact h.s2.m
    · exact h.s4.m
    · exact h.s5.m
    · exact h.s6.m
    · exact h.s7.m
    · exact h.s8.m
    · exact h.s9.m
    · exact h.s10.m
    · exact h.s11.m
    · exact h.s12.m
    · exact h.s13.m
    · exact h.s14.m
    · exact h.s15.m
    · exact h.s16.m
    · exact Nat.zero_le _
  mn := hO.m
  mc := fun c hc => (h.s1.g c hc).m
  mll := fun l hl => (h.s16.g l hl).m

theorem open_search {H : Type} {enc : TypeId × Value → H} {w : World} {base : Nat} {spare : Nat → Bool} {held : Bool} {fuel : Nat} {cs : List Value} {x : DataW H × List MemPlace} (h : DataW.trod enc Try.prog w base spare held fuel 30 cs = some x) :
    ∃ S : SeD, S.ok w ∧ ∀ O : Ch OpD, cs = (rval (adOf O S).A S.fL (adOf O S).cap (envOf O S).only (dynOf S).toPlace (envOf O S).seed (dynOf S).hash).toList := by
  obtain ⟨hlen, n, hf⟩ := open_fields Try.underlying30 (Deep.hone_of (by kernel_rfl)) (by kernel_rfl) h
  obtain ⟨y0, g0⟩ := hf 0 _ rfl
  obtain ⟨only, e0, r0⟩ := el_i32 n _ _ g0
  obtain ⟨y1, g1⟩ := hf 1 _ rfl
  obtain ⟨s1, e1, r1⟩ := open_chains g1
  obtain ⟨y2, g2⟩ := hf 2 _ rfl
  obtain ⟨s2, e2, r2⟩ := open_i64s g2
  obtain ⟨y3, g3⟩ := hf 3 _ rfl
  obtain ⟨tp, e3, r3⟩ := el_i64 n _ _ g3
  obtain ⟨y4, g4⟩ := hf 4 _ rfl
  obtain ⟨s4, e4, r4⟩ := open_bools' g4
  obtain ⟨y5, g5⟩ := hf 5 _ rfl
  obtain ⟨s5, e5, r5⟩ := open_i32s g5
  obtain ⟨y6, g6⟩ := hf 6 _ rfl
  obtain ⟨s6, e6, r6⟩ := open_i32s g6
  obtain ⟨y7, g7⟩ := hf 7 _ rfl
  obtain ⟨s7, e7, r7⟩ := open_bools' g7
  obtain ⟨y8, g8⟩ := hf 8 _ rfl
  obtain ⟨s8, e8, r8⟩ := open_i32s g8
  obtain ⟨y9, g9⟩ := hf 9 _ rfl
  obtain ⟨s9, e9, r9⟩ := open_i64s g9
  obtain ⟨y10, g10⟩ := hf 10 _ rfl
  obtain ⟨s10, e10, r10⟩ := open_bools' g10
  obtain ⟨y11, g11⟩ := hf 11 _ rfl
  obtain ⟨s11, e11, r11⟩ := open_i32s g11
  obtain ⟨y12, g12⟩ := hf 12 _ rfl
  obtain ⟨s12, e12, r12⟩ := open_i32s g12
  obtain ⟨y13, g13⟩ := hf 13 _ rfl
  obtain ⟨s13, e13, r13⟩ := open_i32s g13
  obtain ⟨y14, g14⟩ := hf 14 _ rfl
  obtain ⟨s14, e14, r14⟩ := open_i32s g14
  obtain ⟨y15, g15⟩ := hf 15 _ rfl
  obtain ⟨s15, e15, r15⟩ := open_i32s g15
  obtain ⟨y16, g16⟩ := hf 16 _ rfl
  obtain ⟨s16, e16, r16⟩ := open_levels g16
  obtain ⟨y17, g17⟩ := hf 17 _ rfl
  obtain ⟨seed, e17, r17⟩ := el_u64 n _ _ g17
  obtain ⟨y18, g18⟩ := hf 18 _ rfl
  obtain ⟨hash, e18, r18⟩ := el_u64 n _ _ g18
  have hl : cs.length = 19 := hlen
  match cs, hl with
  | [c0, c1, c2, c3, c4, c5, c6, c7, c8, c9, c10, c11, c12, c13, c14, c15, c16, c17, c18], _ =>
    simp at e0 e1 e2 e3 e4 e5 e6 e7 e8 e9 e10 e11 e12 e13 e14 e15 e16 e17 e18
    subst e0 e1 e2 e3 e4 e5 e6 e7 e8 e9 e10 e11 e12 e13 e14 e15 e16 e17 e18
    exact ⟨⟨only, s1, s2, s4, s5, s6, s7, s8, s9, s10, s11, s12, s13, s14, s15, s16, tp, seed, hash⟩, ⟨r0, r1, r2, r4, r5, r6, r7, r8, r9, r10, r11, r12, r13, r14, r15, r16, r3, r17, r18⟩, fun O => rfl⟩
end Go.Proofs.Qxb6616080a
