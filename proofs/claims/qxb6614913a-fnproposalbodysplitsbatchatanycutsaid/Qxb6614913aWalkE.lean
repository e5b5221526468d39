import Derived.Test.Qxb6614913aWalkD
namespace Go.Proofs.Qxb6614913a
open Go.RowKit
set_option linter.unusedVariables false
set_option linter.unusedSimpArgs false

/-- v's row lies from block B on. -/
def Above (B : Nat) (v : Value) : Prop := ∀ g, v.ownBlock = some g → B ≤ g
theorem Above.ne {B k : Nat} {v : Value} (h : Above B v) (hk : k < B) : some k ≠ v.ownBlock := fun e => by have := h k e.symm; omega
theorem Above.fr {B : Nat} {w w' : World} {v v' : Value} (h : Above B v) (hf : Fr w v w' v') (hB : B ≤ w.heap.size) : Above B v' := by
  intro g hg
  rcases hf.blk with hb | hb
  · exact h g (hb ▸ hg)
  · exact Nat.le_trans hB (hb g hg)

/-- Below block B the two worlds are one. -/
def Same (B : Nat) (w w' : World) : Prop := ∀ k, k < B → w'.heap[k]? = w.heap[k]?
theorem Same.refl (B : Nat) (w : World) : Same B w w := fun _ _ => rfl
theorem Same.trans {B : Nat} {a b c : World} (h : Same B a b) (k : Same B b c) : Same B a c := fun i hi => (k i hi).trans (h i hi)
theorem Same.cell {B : Nat} {w w' : World} (h : Same B w w') {a : Addr} (ha : a.block < B) : w'.cell? a = w.cell? a := World.cell?_of_block (h a.block ha)
theorem Same.fr {B : Nat} {w w' : World} {v v' : Value} (hf : Fr w v w' v') (hv : Above B v) (hB : B ≤ w.heap.size) : Same B w w' := fun k hk => hf.grown.block k (by omega) (hv.ne hk)
theorem Same.grown {B : Nat} {w w' : World} (h : w.grownBy w' none) (hB : B ≤ w.heap.size) : Same B w w' := fun k hk => h.block k (by omega) (by simp)
theorem Same.alloc {B : Nat} {w w' : World} (h : Same B w w') (hB : B ≤ w'.heap.size) (o : Obj) : Same B w (w'.alloc o) := h.trans (Same.grown (World.grownBy_alloc _ _ _) hB)

/-- Bytes below block B. -/
def DatB (B : Nat) (w : World) (da : Option Addr) (dn dc : Nat) (s : List UInt8) : Prop :=
  dn = s.length ∧ ((da = none ∧ dc = 0 ∧ s = []) ∨ ∃ g, da = some ⟨g, 0, none⟩ ∧ g < B ∧ ∀ j, j < s.length → w.cell? ⟨g, j, none⟩ = some (.int .u8 (s.getD j 0).toNat))
theorem DatB.same {B : Nat} {w w' : World} {da : Option Addr} {dn dc : Nat} {s : List UInt8} (h : DatB B w da dn dc s) (hs : Same B w w') : DatB B w' da dn dc s := by
  obtain ⟨h1, h2 | ⟨g, rfl, hg, hc⟩⟩ := h
  · exact ⟨h1, .inl h2⟩
  · exact ⟨h1, .inr ⟨g, rfl, hg, fun j hj => (hs.cell (by exact hg)).trans (hc j hj)⟩⟩
theorem DatB.srcK {B : Nat} {w : World} {da : Option Addr} {dn dc : Nat} {s : List UInt8} {v : Value} (h : DatB B w da dn dc s) (hv : Above B v) : SrcK w v (.slice da dn dc) s := by
  obtain ⟨rfl, ⟨rfl, rfl, rfl⟩ | ⟨g, rfl, hg, hc⟩⟩ := h
  · exact ⟨⟨⟨none, 0, rfl, fun _ => rfl, fun ad e => by cases e⟩, fun _ _ _ => rfl⟩, fun ad n c e => by cases e⟩
  · refine ⟨⟨⟨some ⟨g, 0, none⟩, dc, rfl, (fun e => by cases e), fun ad e j u hu => ?_⟩, fun _ _ e => by cases e⟩, fun ad n c e _ => by cases e; exact hv.ne hg⟩
    cases e
    have hj : j < s.length := by
      have := (List.getElem?_eq_some_iff.1 hu).1
      rwa [Lib.byteCells_length] at this
    rw [Addr.add_lit, Nat.zero_add, hc j hj, ← hu]
    simp [Lib.byteCells, List.getD, hj]

/-- uint64s below block B. -/
def DatU (B : Nat) (w : World) (x : Value) (ns : List Int) : Prop :=
  (x = .slice none 0 0 ∧ ns = []) ∨ ∃ g c, x = .slice (some ⟨g, 0, none⟩) ns.length c ∧ g < B ∧ ∀ j, j < ns.length → w.cell? ⟨g, j, none⟩ = some (.int .u64 (ns.getD j 0))
theorem DatU.same {B : Nat} {w w' : World} {x : Value} {ns : List Int} (h : DatU B w x ns) (hs : Same B w w') : DatU B w' x ns := by
  rcases h with h | ⟨g, c, rfl, hg, hc⟩
  · exact .inl h
  · exact .inr ⟨g, c, rfl, hg, fun j hj => (hs.cell (by exact hg)).trans (hc j hj)⟩
theorem DatU.srcU {B : Nat} {w : World} {x : Value} {ns : List Int} {v : Value} (h : DatU B w x ns) (hv : Above B v) (hB : B ≤ w.heap.size) : SrcU w v x ns := by
  rcases h with h | ⟨g, c, rfl, hg, hc⟩
  · exact .inl h
  · exact .inr ⟨g, c, rfl, by omega, hv.ne hg, hc⟩

/-- AN ENTRY's DATA. -/
structure EntD where
  frm : ByteArray
  seq : Int
  data : List UInt8
  chg : Option (Bool × ByteArray × ByteArray)
  fls : Option (List Int)
  set : Option SetD
  spread : Bool
  ref : Bool

/-- 'appendContent'. -/
def encC (E : EntD) : List UInt8 := uv E.seq ++ (match E.fls with
  | some ns => uv 3 ++ encU ns
  | none => match E.set with
    | some d => encS d
    | none => if E.ref then uv 8 else if E.spread then uv 7 ++ encB E.data else match E.chg with
      | none => uv 0 ++ encB E.data
      | some (true, n, a) => uv 1 ++ encB n.data.toList ++ encB a.data.toList
      | some (false, n, _) => uv 2 ++ encB n.data.toList)
/-- 'appendEntry'. -/
def encE (E : EntD) : List UInt8 := encB E.frm.data.toList ++ encC E

/-- The sizes that the law lets by. -/
structure EntD.ok (E : EntD) : Prop where
  f : E.frm.size ≤ 1048576
  s0 : 0 ≤ E.seq
  s1 : E.seq < 18446744073709551616
  d : E.data.length ≤ 1048576
  c : ∀ j n a, E.chg = some (j, n, a) → n.size ≤ 1048576 ∧ a.size ≤ 1048576
  u : ∀ ns, E.fls = some ns → ns.length ≤ 1048576 ∧ ∀ n ∈ ns, 0 ≤ n ∧ n < 18446744073709551616
  t : ∀ d, E.set = some d → d.ok

/-- THE ENTRY IN MEMORY, all it leads to below block B. -/
structure EntAt (B : Nat) (w : World) (E : EntD) (da : Option Addr) (dn dc : Nat) (co fo so : Option Addr) : Prop where
  data : DatB B w da dn dc E.data
  chg : (co = none ∧ E.chg = none) ∨ ∃ g j n a, co = some ⟨g, 0, none⟩ ∧ g < B ∧ E.chg = some (j, n, a) ∧ w.cell? ⟨g, 0, none⟩ = some (.bool j) ∧ w.cell? ⟨g, 1, none⟩ = some (.string n) ∧ w.cell? ⟨g, 2, none⟩ = some (.string a)
  fls : (fo = none ∧ E.fls = none) ∨ ∃ g x ns, fo = some ⟨g, 0, none⟩ ∧ g < B ∧ E.fls = some ns ∧ w.cell? ⟨g, 0, none⟩ = some x ∧ DatU B w x ns
  set : (so = none ∧ E.set = none) ∨ ∃ g d, so = some ⟨g, 0, none⟩ ∧ g < B ∧ E.set = some d ∧ ∀ j, w.cell? ⟨g, j, none⟩ = d.vals[j]?

theorem EntAt.same {B : Nat} {w w' : World} {E : EntD} {da : Option Addr} {dn dc : Nat} {co fo so : Option Addr} (h : EntAt B w E da dn dc co fo so) (hs : Same B w w') : EntAt B w' E da dn dc co fo so := by
  refine ⟨h.data.same hs, ?_, ?_, ?_⟩
  · rcases h.chg with h | ⟨g, j, n, a, e, hg, e2, c0, c1, c2⟩
    · exact .inl h
    · exact .inr ⟨g, j, n, a, e, hg, e2, (hs.cell (by exact hg)).trans c0, (hs.cell (by exact hg)).trans c1, (hs.cell (by exact hg)).trans c2⟩
  · rcases h.fls with h | ⟨g, x, ns, e, hg, e2, c0, hd⟩
    · exact .inl h
    · exact .inr ⟨g, x, ns, e, hg, e2, (hs.cell (by exact hg)).trans c0, hd.same hs⟩
  · rcases h.set with h | ⟨g, d, e, hg, e2, c0⟩
    · exact .inl h
    · exact .inr ⟨g, d, e, hg, e2, fun j => (hs.cell (by exact hg)).trans (c0 j)⟩


set_option maxHeartbeats 1000000 in
theorem f21_ref (v : Value) (l : List UInt8) (B : Nat) (frm : ByteArray) (seq : Int) (da : Option Addr) (dn dc : Nat) (co : Option Addr) (spread : Bool) (w : World) (r : List UInt8) (hv : Buf w v l) (hab : Above B v) (hBw : B ≤ w.heap.size) (hs0 : 0 ≤ seq) (hs1 : seq < 18446744073709551616) (hlim : l.length + 30000000 ≤ 1099511627776)
     (hr : l ++ (uv seq ++ (uv 8)) = r) :
    Calls Try.prog 21 #[v, .agg #[.string frm, .int .u64 seq, .slice da dn dc, .pointer co, .pointer none, .pointer none, .bool spread, .bool true]] w fun e w' => ∃ v', e = .returned v' ∧ Buf w' v' r ∧ Fr w v w' v' := by
  obtain ⟨r1, hr1⟩ : ∃ r1 : List UInt8, l ++ uv seq = r1 := ⟨_, rfl⟩
  have hl1 : r1.length ≤ l.length + 10 := by rw [← hr1, List.length_append]; have := uv_len seq hs1; omega
  have h16 := f16_to v l seq (w.alloc (.cells #[.string frm, .int .u64 seq, .slice da dn dc, .pointer co, .pointer none, .pointer none, .bool spread, .bool true] 41)) r1 hs0 hs1 (hv.alloc _) (by omega) hr1
  have HR : Hid (r1 ++ uv 8 = r) := by show _ = _; rw [← hr1, ← hr]; simp
  clear hr hr1
  go_enter Try.func21, Try.ntmps21
  go_wp2_with fail
  refine h16.mono ?_
  rintro e w1 ⟨v1, rfl, hb1, hf1⟩
  have hbox1 := box_kept hv hf1
  have sm1 : Same B w w1 := (Same.grown (World.grownBy_alloc _ _ _) hBw).trans (Same.fr hf1 hab (by simp; omega))
  have ab1 : Above B v1 := hab.fr hf1 (by simp; omega)
  have bw1 : B ≤ w1.heap.size := by have := hf1.grown.size; simp at this; omega
  clear h16
  go_wp2_with fail
  refine (f16_to v1 r1 8 w1 r (by omega) (by omega) hb1 (by omega) HR.out).mono ?_
  rintro e w2 ⟨v2, rfl, hb2, hf2⟩
  go_wp2
  go_ret
  exact ⟨v2, rfl, hb2, Fr.pre (World.grownBy_alloc _ _ _) (hf1.trans hf2)⟩

set_option maxHeartbeats 1000000 in
theorem f21_spread (v : Value) (l : List UInt8) (B : Nat) (frm : ByteArray) (seq : Int) (da : Option Addr) (dn dc : Nat) (co : Option Addr) (data : List UInt8) (w : World) (r : List UInt8) (hv : Buf w v l) (hab : Above B v) (hBw : B ≤ w.heap.size) (hs0 : 0 ≤ seq) (hs1 : seq < 18446744073709551616) (hlim : l.length + 30000000 ≤ 1099511627776)
    (hd : DatB B w da dn dc data) (hdl : data.length ≤ 1048576) (hr : l ++ (uv seq ++ (uv 7 ++ encB data)) = r) :
    Calls Try.prog 21 #[v, .agg #[.string frm, .int .u64 seq, .slice da dn dc, .pointer co, .pointer none, .pointer none, .bool true, .bool false]] w fun e w' => ∃ v', e = .returned v' ∧ Buf w' v' r ∧ Fr w v w' v' := by
  obtain ⟨r1, hr1⟩ : ∃ r1 : List UInt8, l ++ uv seq = r1 := ⟨_, rfl⟩
  have hl1 : r1.length ≤ l.length + 10 := by rw [← hr1, List.length_append]; have := uv_len seq hs1; omega
  have h16 := f16_to v l seq (w.alloc (.cells #[.string frm, .int .u64 seq, .slice da dn dc, .pointer co, .pointer none, .pointer none, .bool true, .bool false] 41)) r1 hs0 hs1 (hv.alloc _) (by omega) hr1
  obtain ⟨r2, hr2⟩ : ∃ r2 : List UInt8, r1 ++ uv 7 = r2 := ⟨_, rfl⟩
  have hl2 : r2.length ≤ l.length + 20 := by rw [← hr2, List.length_append]; have := uv_len 7 (by omega); omega
  have HR : Hid (r2 ++ encB data = r) := by show _ = _; rw [← hr2, ← hr1, ← hr]; simp
  have HR2 : Hid (r1 ++ uv 7 = r2) := hr2
  have HD : Hid (DatB B w da dn dc data) := hd
  clear hr hr1 hr2 hd
  go_enter Try.func21, Try.ntmps21
  go_wp2_with fail
  refine h16.mono ?_
  rintro e w1 ⟨v1, rfl, hb1, hf1⟩
  have hbox1 := box_kept hv hf1
  have sm1 : Same B w w1 := (Same.grown (World.grownBy_alloc _ _ _) hBw).trans (Same.fr hf1 hab (by simp; omega))
  have ab1 : Above B v1 := hab.fr hf1 (by simp; omega)
  have bw1 : B ≤ w1.heap.size := by have := hf1.grown.size; simp at this; omega
  clear h16
  go_wp2_with fail
  refine (f16_to v1 r1 7 w1 r2 (by omega) (by omega) hb1 (by omega) HR2.out).mono ?_
  rintro e w2 ⟨v2, rfl, hb2, hf2⟩
  have hbox2 := box_kept hv (hf1.trans hf2)
  have sm2 : Same B w w2 := sm1.trans (Same.fr hf2 ab1 bw1)
  have ab2 : Above B v2 := ab1.fr hf2 bw1
  have bw2 : B ≤ w2.heap.size := Nat.le_trans bw1 hf2.grown.size
  clear hbox1
  go_wp2_with fail
  refine (f20_to v2 _ r2 data w2 r hb2 ((HD.out.same sm2).srcK ab2) hdl (by omega) HR.out).mono ?_
  rintro e w3 ⟨v3, rfl, hb3, hf3⟩
  go_wp2
  go_ret
  exact ⟨v3, rfl, hb3, Fr.pre (World.grownBy_alloc _ _ _) ((hf1.trans hf2).trans hf3)⟩

set_option maxHeartbeats 1000000 in
theorem f21_msg (v : Value) (l : List UInt8) (B : Nat) (frm : ByteArray) (seq : Int) (da : Option Addr) (dn dc : Nat) (data : List UInt8) (w : World) (r : List UInt8) (hv : Buf w v l) (hab : Above B v) (hBw : B ≤ w.heap.size) (hs0 : 0 ≤ seq) (hs1 : seq < 18446744073709551616) (hlim : l.length + 30000000 ≤ 1099511627776)
    (hd : DatB B w da dn dc data) (hdl : data.length ≤ 1048576) (hr : l ++ (uv seq ++ (uv 0 ++ encB data)) = r) :
    Calls Try.prog 21 #[v, .agg #[.string frm, .int .u64 seq, .slice da dn dc, .pointer none, .pointer none, .pointer none, .bool false, .bool false]] w fun e w' => ∃ v', e = .returned v' ∧ Buf w' v' r ∧ Fr w v w' v' := by
  obtain ⟨r1, hr1⟩ : ∃ r1 : List UInt8, l ++ uv seq = r1 := ⟨_, rfl⟩
  have hl1 : r1.length ≤ l.length + 10 := by rw [← hr1, List.length_append]; have := uv_len seq hs1; omega
  have h16 := f16_to v l seq (w.alloc (.cells #[.string frm, .int .u64 seq, .slice da dn dc, .pointer none, .pointer none, .pointer none, .bool false, .bool false] 41)) r1 hs0 hs1 (hv.alloc _) (by omega) hr1
  obtain ⟨r2, hr2⟩ : ∃ r2 : List UInt8, r1 ++ uv 0 = r2 := ⟨_, rfl⟩
  have hl2 : r2.length ≤ l.length + 20 := by rw [← hr2, List.length_append]; have := uv_len 0 (by omega); omega
  have HR : Hid (r2 ++ encB data = r) := by show _ = _; rw [← hr2, ← hr1, ← hr]; simp
  have HR2 : Hid (r1 ++ uv 0 = r2) := hr2
  have HD : Hid (DatB B w da dn dc data) := hd
  clear hr hr1 hr2 hd
  go_enter Try.func21, Try.ntmps21
  go_wp2_with fail
  refine h16.mono ?_
  rintro e w1 ⟨v1, rfl, hb1, hf1⟩
  have hbox1 := box_kept hv hf1
  have sm1 : Same B w w1 := (Same.grown (World.grownBy_alloc _ _ _) hBw).trans (Same.fr hf1 hab (by simp; omega))
  have ab1 : Above B v1 := hab.fr hf1 (by simp; omega)
  have bw1 : B ≤ w1.heap.size := by have := hf1.grown.size; simp at this; omega
  clear h16
  go_wp2_with fail
  refine (f16_to v1 r1 0 w1 r2 (by omega) (by omega) hb1 (by omega) HR2.out).mono ?_
  rintro e w2 ⟨v2, rfl, hb2, hf2⟩
  have hbox2 := box_kept hv (hf1.trans hf2)
  have sm2 : Same B w w2 := sm1.trans (Same.fr hf2 ab1 bw1)
  have ab2 : Above B v2 := ab1.fr hf2 bw1
  have bw2 : B ≤ w2.heap.size := Nat.le_trans bw1 hf2.grown.size
  clear hbox1
  go_wp2_with fail
  refine (f20_to v2 _ r2 data w2 r hb2 ((HD.out.same sm2).srcK ab2) hdl (by omega) HR.out).mono ?_
  rintro e w3 ⟨v3, rfl, hb3, hf3⟩
  go_wp2
  go_ret
  exact ⟨v3, rfl, hb3, Fr.pre (World.grownBy_alloc _ _ _) ((hf1.trans hf2).trans hf3)⟩

set_option maxHeartbeats 1000000 in
theorem f21_leave (v : Value) (l : List UInt8) (B : Nat) (frm : ByteArray) (seq : Int) (da : Option Addr) (dn dc : Nat) (g : Nat) (n : ByteArray) (w : World) (r : List UInt8) (hv : Buf w v l) (hab : Above B v) (hBw : B ≤ w.heap.size) (hs0 : 0 ≤ seq) (hs1 : seq < 18446744073709551616) (hlim : l.length + 30000000 ≤ 1099511627776)
    (hg : g < B) (c0 : w.cell? ⟨g, 0, none⟩ = some (.bool false)) (c1 : w.cell? ⟨g, 1, none⟩ = some (.string n)) (hnl : n.size ≤ 1048576) (hr : l ++ (uv seq ++ (uv 2 ++ encB n.data.toList)) = r) :
    Calls Try.prog 21 #[v, .agg #[.string frm, .int .u64 seq, .slice da dn dc, .pointer (some ⟨g, 0, none⟩), .pointer none, .pointer none, .bool false, .bool false]] w fun e w' => ∃ v', e = .returned v' ∧ Buf w' v' r ∧ Fr w v w' v' := by
  obtain ⟨r1, hr1⟩ : ∃ r1 : List UInt8, l ++ uv seq = r1 := ⟨_, rfl⟩
  have hl1 : r1.length ≤ l.length + 10 := by rw [← hr1, List.length_append]; have := uv_len seq hs1; omega
  have h16 := f16_to v l seq (w.alloc (.cells #[.string frm, .int .u64 seq, .slice da dn dc, .pointer (some ⟨g, 0, none⟩), .pointer none, .pointer none, .bool false, .bool false] 41)) r1 hs0 hs1 (hv.alloc _) (by omega) hr1
  obtain ⟨r2, hr2⟩ : ∃ r2 : List UInt8, r1 ++ uv 2 = r2 := ⟨_, rfl⟩
  have hl2 : r2.length ≤ l.length + 20 := by rw [← hr2, List.length_append]; have := uv_len 2 (by omega); omega
  have HR : Hid (r2 ++ encB n.data.toList = r) := by show _ = _; rw [← hr2, ← hr1, ← hr]; simp
  have HR2 : Hid (r1 ++ uv 2 = r2) := hr2
  have HC0 : Hid (w.cell? ⟨g, 0, none⟩ = some (.bool false)) := c0
  have HC1 : Hid (w.cell? ⟨g, 1, none⟩ = some (.string n)) := c1
  have hcv := conv_bytes
  clear hr hr1 hr2 c0 c1
  go_enter Try.func21, Try.ntmps21
  go_wp2_with fail
  refine h16.mono ?_
  rintro e w1 ⟨v1, rfl, hb1, hf1⟩
  have hbox1 := box_kept hv hf1
  have sm1 : Same B w w1 := (Same.grown (World.grownBy_alloc _ _ _) hBw).trans (Same.fr hf1 hab (by simp; omega))
  have ab1 : Above B v1 := hab.fr hf1 (by simp; omega)
  have bw1 : B ≤ w1.heap.size := by have := hf1.grown.size; simp at this; omega
  clear h16
  have d0 := (sm1.cell (a := ⟨g, 0, none⟩) hg).trans HC0.out
  go_wp2_with fail
  refine (f16_to v1 r1 2 w1 r2 (by omega) (by omega) hb1 (by omega) HR2.out).mono ?_
  rintro e w2 ⟨v2, rfl, hb2, hf2⟩
  have hbox2 := box_kept hv (hf1.trans hf2)
  have sm2 : Same B w w2 := sm1.trans (Same.fr hf2 ab1 bw1)
  have ab2 : Above B v2 := ab1.fr hf2 bw1
  have bw2 : B ≤ w2.heap.size := Nat.le_trans bw1 hf2.grown.size
  clear hbox1
  have d1 := (sm2.cell (a := ⟨g, 1, none⟩) hg).trans HC1.out
  clear d0
  go_wp2_with fail
  refine (f20_str v2 r2 n w2 r hb2 hnl (by omega) HR.out).mono ?_
  rintro e w3 ⟨v3, rfl, hb3, hf3⟩
  go_wp2
  go_ret
  exact ⟨v3, rfl, hb3, Fr.pre (World.grownBy_alloc _ _ _) ((hf1.trans hf2).trans hf3)⟩

set_option maxHeartbeats 1000000 in
theorem f21_join (v : Value) (l : List UInt8) (B : Nat) (frm : ByteArray) (seq : Int) (da : Option Addr) (dn dc : Nat) (g : Nat) (n a : ByteArray) (w : World) (r : List UInt8) (hv : Buf w v l) (hab : Above B v) (hBw : B ≤ w.heap.size) (hs0 : 0 ≤ seq) (hs1 : seq < 18446744073709551616) (hlim : l.length + 30000000 ≤ 1099511627776)
    (hg : g < B) (c0 : w.cell? ⟨g, 0, none⟩ = some (.bool true)) (c1 : w.cell? ⟨g, 1, none⟩ = some (.string n)) (c2 : w.cell? ⟨g, 2, none⟩ = some (.string a)) (hnl : n.size ≤ 1048576) (hal : a.size ≤ 1048576) (hr : l ++ (uv seq ++ (uv 1 ++ encB n.data.toList ++ encB a.data.toList)) = r) :
    Calls Try.prog 21 #[v, .agg #[.string frm, .int .u64 seq, .slice da dn dc, .pointer (some ⟨g, 0, none⟩), .pointer none, .pointer none, .bool false, .bool false]] w fun e w' => ∃ v', e = .returned v' ∧ Buf w' v' r ∧ Fr w v w' v' := by
  obtain ⟨r1, hr1⟩ : ∃ r1 : List UInt8, l ++ uv seq = r1 := ⟨_, rfl⟩
  have hl1 : r1.length ≤ l.length + 10 := by rw [← hr1, List.length_append]; have := uv_len seq hs1; omega
  have h16 := f16_to v l seq (w.alloc (.cells #[.string frm, .int .u64 seq, .slice da dn dc, .pointer (some ⟨g, 0, none⟩), .pointer none, .pointer none, .bool false, .bool false] 41)) r1 hs0 hs1 (hv.alloc _) (by omega) hr1
  obtain ⟨r2, hr2⟩ : ∃ r2 : List UInt8, r1 ++ uv 1 = r2 := ⟨_, rfl⟩
  have hl2 : r2.length ≤ l.length + 20 := by rw [← hr2, List.length_append]; have := uv_len 1 (by omega); omega
  obtain ⟨r3, hr3⟩ : ∃ r3 : List UInt8, r2 ++ encB n.data.toList = r3 := ⟨_, rfl⟩
  have hl3 : r3.length ≤ l.length + 1100000 := by rw [← hr3, List.length_append]; have := encB_len n.data.toList hnl; have e : n.data.toList.length = n.size := rfl; omega
  have HR : Hid (r3 ++ encB a.data.toList = r) := by show _ = _; rw [← hr3, ← hr2, ← hr1, ← hr]; simp
  have HR2 : Hid (r1 ++ uv 1 = r2) := hr2
  have HR3 : Hid (r2 ++ encB n.data.toList = r3) := hr3
  have HC0 : Hid (w.cell? ⟨g, 0, none⟩ = some (.bool true)) := c0
  have HC1 : Hid (w.cell? ⟨g, 1, none⟩ = some (.string n)) := c1
  have HC2 : Hid (w.cell? ⟨g, 2, none⟩ = some (.string a)) := c2
  have hcv := conv_bytes
  clear hr hr1 hr2 hr3 c0 c1 c2
  go_enter Try.func21, Try.ntmps21
  go_wp2_with fail
  refine h16.mono ?_
  rintro e w1 ⟨v1, rfl, hb1, hf1⟩
  have hbox1 := box_kept hv hf1
  have sm1 : Same B w w1 := (Same.grown (World.grownBy_alloc _ _ _) hBw).trans (Same.fr hf1 hab (by simp; omega))
  have ab1 : Above B v1 := hab.fr hf1 (by simp; omega)
  have bw1 : B ≤ w1.heap.size := by have := hf1.grown.size; simp at this; omega
  clear h16
  have d0 := (sm1.cell (a := ⟨g, 0, none⟩) hg).trans HC0.out
  go_wp2_with fail
  refine (f16_to v1 r1 1 w1 r2 (by omega) (by omega) hb1 (by omega) HR2.out).mono ?_
  rintro e w2 ⟨v2, rfl, hb2, hf2⟩
  have hbox2 := box_kept hv (hf1.trans hf2)
  have sm2 : Same B w w2 := sm1.trans (Same.fr hf2 ab1 bw1)
  have ab2 : Above B v2 := ab1.fr hf2 bw1
  have bw2 : B ≤ w2.heap.size := Nat.le_trans bw1 hf2.grown.size
  clear hbox1
  have d1 := (sm2.cell (a := ⟨g, 1, none⟩) hg).trans HC1.out
  clear d0
  go_wp2_with fail
  refine (f20_str v2 r2 n w2 r3 hb2 hnl (by omega) HR3.out).mono ?_
  rintro e w3 ⟨v3, rfl, hb3, hf3⟩
  have hbox3 := box_kept hv ((hf1.trans hf2).trans hf3)
  have sm3 : Same B w w3 := sm2.trans (Same.fr hf3 ab2 bw2)
  have d2 := (sm3.cell (a := ⟨g, 2, none⟩) hg).trans HC2.out
  clear hbox2 d1
  go_wp2_with fail
  refine (f20_str v3 r3 a w3 r hb3 hal (by omega) HR.out).mono ?_
  rintro e w4 ⟨v4, rfl, hb4, hf4⟩
  go_wp2
  go_ret
  exact ⟨v4, rfl, hb4, Fr.pre (World.grownBy_alloc _ _ _) (((hf1.trans hf2).trans hf3).trans hf4)⟩

set_option maxHeartbeats 1000000 in
theorem f21_set (v : Value) (l : List UInt8) (B : Nat) (frm : ByteArray) (seq : Int) (da : Option Addr) (dn dc : Nat) (co : Option Addr) (spread ref : Bool) (g : Nat) (d : SetD) (w : World) (r : List UInt8) (hv : Buf w v l) (hab : Above B v) (hBw : B ≤ w.heap.size) (hs0 : 0 ≤ seq) (hs1 : seq < 18446744073709551616) (hlim : l.length + 30000000 ≤ 1099511627776)
    (hg : g < B) (c0 : ∀ j, w.cell? ⟨g, j, none⟩ = d.vals[j]?) (hd : d.ok) (hr : l ++ (uv seq ++ (encS d)) = r) :
    Calls Try.prog 21 #[v, .agg #[.string frm, .int .u64 seq, .slice da dn dc, .pointer co, .pointer none, .pointer (some ⟨g, 0, none⟩), .bool spread, .bool ref]] w fun e w' => ∃ v', e = .returned v' ∧ Buf w' v' r ∧ Fr w v w' v' := by
  obtain ⟨r1, hr1⟩ : ∃ r1 : List UInt8, l ++ uv seq = r1 := ⟨_, rfl⟩
  have hl1 : r1.length ≤ l.length + 10 := by rw [← hr1, List.length_append]; have := uv_len seq hs1; omega
  have h16 := f16_to v l seq (w.alloc (.cells #[.string frm, .int .u64 seq, .slice da dn dc, .pointer co, .pointer none, .pointer (some ⟨g, 0, none⟩), .bool spread, .bool ref] 41)) r1 hs0 hs1 (hv.alloc _) (by omega) hr1
  have HR : Hid (r1 ++ encS d = r) := by show _ = _; rw [← hr1, ← hr]; simp
  have HC0 : Hid (∀ j, w.cell? ⟨g, j, none⟩ = d.vals[j]?) := c0
  clear hr hr1 c0
  go_enter Try.func21, Try.ntmps21
  go_wp2_with fail
  refine h16.mono ?_
  rintro e w1 ⟨v1, rfl, hb1, hf1⟩
  have hbox1 := box_kept hv hf1
  have sm1 : Same B w w1 := (Same.grown (World.grownBy_alloc _ _ _) hBw).trans (Same.fr hf1 hab (by simp; omega))
  have ab1 : Above B v1 := hab.fr hf1 (by simp; omega)
  have bw1 : B ≤ w1.heap.size := by have := hf1.grown.size; simp at this; omega
  clear h16
  have d0 : ∀ j, w1.cell? ⟨g, j, none⟩ = #[.bool d.read, .string d.elem, .bool d.remove, .bool d.same, .int .u64 d.at_][j]? := fun j => (sm1.cell (a := ⟨g, j, none⟩) hg).trans (HC0.out j)
  go_wp2_with fail
  refine (f23_to v1 r1 d w1 r hb1 hd (by omega) HR.out).mono ?_
  rintro e w2 ⟨v2, rfl, hb2, hf2⟩
  go_wp2
  go_ret
  exact ⟨v2, rfl, hb2, Fr.pre (World.grownBy_alloc _ _ _) (hf1.trans hf2)⟩

set_option maxHeartbeats 1000000 in
theorem f21_fls (v : Value) (l : List UInt8) (B : Nat) (frm : ByteArray) (seq : Int) (da : Option Addr) (dn dc : Nat) (co so : Option Addr) (spread ref : Bool) (g : Nat) (xa : Option Addr) (xn xc : Nat) (ns : List Int) (w : World) (r : List UInt8) (hv : Buf w v l) (hab : Above B v) (hBw : B ≤ w.heap.size) (hs0 : 0 ≤ seq) (hs1 : seq < 18446744073709551616) (hlim : l.length + 30000000 ≤ 1099511627776)
    (hg : g < B) (c0 : w.cell? ⟨g, 0, none⟩ = some (.slice xa xn xc)) (hu : DatU B w (.slice xa xn xc) ns) (hnl : ns.length ≤ 1048576) (hnb : ∀ n ∈ ns, 0 ≤ n ∧ n < 18446744073709551616) (hr : l ++ (uv seq ++ (uv 3 ++ encU ns)) = r) :
    Calls Try.prog 21 #[v, .agg #[.string frm, .int .u64 seq, .slice da dn dc, .pointer co, .pointer (some ⟨g, 0, none⟩), .pointer so, .bool spread, .bool ref]] w fun e w' => ∃ v', e = .returned v' ∧ Buf w' v' r ∧ Fr w v w' v' := by
  obtain ⟨r1, hr1⟩ : ∃ r1 : List UInt8, l ++ uv seq = r1 := ⟨_, rfl⟩
  have hl1 : r1.length ≤ l.length + 10 := by rw [← hr1, List.length_append]; have := uv_len seq hs1; omega
  have h16 := f16_to v l seq (w.alloc (.cells #[.string frm, .int .u64 seq, .slice da dn dc, .pointer co, .pointer (some ⟨g, 0, none⟩), .pointer so, .bool spread, .bool ref] 41)) r1 hs0 hs1 (hv.alloc _) (by omega) hr1
  obtain ⟨r2, hr2⟩ : ∃ r2 : List UInt8, r1 ++ uv 3 = r2 := ⟨_, rfl⟩
  have hl2 : r2.length ≤ l.length + 20 := by rw [← hr2, List.length_append]; have := uv_len 3 (by omega); omega
  have HR : Hid (r2 ++ encU ns = r) := by show _ = _; rw [← hr2, ← hr1, ← hr]; simp
  have HR2 : Hid (r1 ++ uv 3 = r2) := hr2
  have HC0 : Hid (w.cell? ⟨g, 0, none⟩ = some (.slice xa xn xc)) := c0
  have HU : Hid (DatU B w (.slice xa xn xc) ns) := hu
  have HNB : Hid (∀ n ∈ ns, 0 ≤ n ∧ n < 18446744073709551616) := hnb
  clear hr hr1 hr2 c0 hu hnb
  go_enter Try.func21, Try.ntmps21
  go_wp2_with fail
  refine h16.mono ?_
  rintro e w1 ⟨v1, rfl, hb1, hf1⟩
  have hbox1 := box_kept hv hf1
  have sm1 : Same B w w1 := (Same.grown (World.grownBy_alloc _ _ _) hBw).trans (Same.fr hf1 hab (by simp; omega))
  have ab1 : Above B v1 := hab.fr hf1 (by simp; omega)
  have bw1 : B ≤ w1.heap.size := by have := hf1.grown.size; simp at this; omega
  clear h16
  go_wp2_with fail
  refine (f16_to v1 r1 3 w1 r2 (by omega) (by omega) hb1 (by omega) HR2.out).mono ?_
  rintro e w2 ⟨v2, rfl, hb2, hf2⟩
  have hbox2 := box_kept hv (hf1.trans hf2)
  have sm2 : Same B w w2 := sm1.trans (Same.fr hf2 ab1 bw1)
  have ab2 : Above B v2 := ab1.fr hf2 bw1
  have bw2 : B ≤ w2.heap.size := Nat.le_trans bw1 hf2.grown.size
  clear hbox1
  have d0 := (sm2.cell (a := ⟨g, 0, none⟩) hg).trans HC0.out
  go_wp2_with fail
  refine (f22_to v2 _ r2 ns w2 r hb2 ((HU.out.same sm2).srcU ab2 bw2) HNB.out hnl (by omega) HR.out).mono ?_
  rintro e w3 ⟨v3, rfl, hb3, hf3⟩
  go_wp2
  go_ret
  exact ⟨v3, rfl, hb3, Fr.pre (World.grownBy_alloc _ _ _) ((hf1.trans hf2).trans hf3)⟩

/-- 'appendContent', whatever the entry. -/
theorem f21_to (v : Value) (l : List UInt8) (B : Nat) (E : EntD) (da : Option Addr) (dn dc : Nat) (co fo so : Option Addr) (w : World) (r : List UInt8) (hv : Buf w v l) (hab : Above B v) (hBw : B ≤ w.heap.size) (hE : EntAt B w E da dn dc co fo so) (ok : E.ok) (hlim : l.length + 30000000 ≤ 1099511627776) (hr : l ++ encC E = r) :
    Calls Try.prog 21 #[v, .agg #[.string E.frm, .int .u64 E.seq, .slice da dn dc, .pointer co, .pointer fo, .pointer so, .bool E.spread, .bool E.ref]] w fun e w' => ∃ v', e = .returned v' ∧ Buf w' v' r ∧ Fr w v w' v' := by
  unfold encC at hr
  rcases hE.fls with ⟨rfl, h2⟩ | ⟨g, x, ns, rfl, hg, h2, c0, hd⟩
  · rw [h2] at hr
    rcases hE.set with ⟨rfl, h3⟩ | ⟨g, d, rfl, hg, h3, c0⟩
    · rw [h3] at hr
      cases hrf : E.ref with
      | true =>
        rw [hrf] at hr
        exact f21_ref v l B E.frm E.seq da dn dc co E.spread w r hv hab hBw ok.s0 ok.s1 hlim (by simpa using hr)
      | false =>
        rw [hrf] at hr
        cases hsp : E.spread with
        | true =>
          rw [hsp] at hr
          exact f21_spread v l B E.frm E.seq da dn dc co E.data w r hv hab hBw ok.s0 ok.s1 hlim hE.data ok.d (by simpa using hr)
        | false =>
          rw [hsp] at hr
          rcases hE.chg with ⟨rfl, h4⟩ | ⟨g, j, n, a, rfl, hg, h4, c0, c1, c2⟩
          · rw [h4] at hr
            exact f21_msg v l B E.frm E.seq da dn dc E.data w r hv hab hBw ok.s0 ok.s1 hlim hE.data ok.d (by simpa using hr)
          · rw [h4] at hr
            have hk := ok.c _ _ _ h4
            cases j with
            | true => exact f21_join v l B E.frm E.seq da dn dc g n a w r hv hab hBw ok.s0 ok.s1 hlim hg c0 c1 c2 hk.1 hk.2 (by simpa using hr)
            | false => exact f21_leave v l B E.frm E.seq da dn dc g n w r hv hab hBw ok.s0 ok.s1 hlim hg c0 c1 hk.1 (by simpa using hr)
    · rw [h3] at hr
      exact f21_set v l B E.frm E.seq da dn dc co E.spread E.ref g d w r hv hab hBw ok.s0 ok.s1 hlim hg c0 (ok.t d h3) hr
  · rw [h2] at hr
    have hk := ok.u _ h2
    obtain ⟨xa, xn, xc, rfl⟩ : ∃ xa xn xc, x = .slice xa xn xc := by
      rcases hd with ⟨rfl, _⟩ | ⟨g, c, rfl, _⟩
      · exact ⟨_, _, _, rfl⟩
      · exact ⟨_, _, _, rfl⟩
    exact f21_fls v l B E.frm E.seq da dn dc co so E.spread E.ref g xa xn xc ns w r hv hab hBw ok.s0 ok.s1 hlim hg c0 hd hk.1 hk.2 hr
end Go.Proofs.Qxb6614913a
