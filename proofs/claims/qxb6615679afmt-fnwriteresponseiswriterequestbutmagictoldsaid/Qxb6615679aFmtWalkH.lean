import Derived.Test.Qxb6615679aFmtWalkG
namespace Go.Proofs.Qxb6615679aFmt
open Go.RowKit
set_option linter.unusedVariables false
set_option linter.unusedSimpArgs false

theorem putAt_one (cur : Array Value) (i : Nat) (v : Value) (h : i < cur.size) : cur.setIfInBounds i v = putAt cur i [v] := by
  apply Array.ext'
  unfold putAt
  rw [List.toList_toArray, Array.toList_setIfInBounds, List.set_eq_take_append_cons_drop, if_pos (by simpa using h)]
  simp
theorem putAt_putAt (cur : Array Value) (o : Nat) (a b : List Value) (k : Nat) (hk : k = o + a.length) (h : o + a.length + b.length ≤ cur.size) : putAt (putAt cur o a) k b = putAt cur o (a ++ b) := by
  subst hk
  have e : cur.toList.length = cur.size := Array.length_toList
  have h1 := putAt_take cur o a (by omega)
  unfold putAt at h1 ⊢
  rw [h1]
  apply Array.ext'
  rw [List.toList_toArray, List.toList_toArray]
  have hd : List.drop (o + a.length + b.length) (cur.toList.take o ++ a ++ cur.toList.drop (o + a.length)) = cur.toList.drop (o + (a ++ b).length) := by
    have hl : (cur.toList.take o ++ a).length = o + a.length := by simp; omega
    rw [List.drop_append, List.drop_of_length_le (by omega), List.nil_append, hl, List.drop_drop, List.length_append]
    congr 1
    omega
  rw [List.toList_toArray, hd]
  simp only [List.append_assoc]
theorem heap_setCells (g : Nat) (t : TypeId) (fz : Nat × Nat) : ∀ (cs : List Value) (o : Nat) (cur : Array Value) (w : World), w.heap[g]? = some (.cells cur t fz) → o + cs.length ≤ cur.size → (w.setCells g o cs).heap[g]? = some (.cells (putAt cur o cs) t fz)
  | [], o, cur, w, hg, _ => by rw [putAt_nil]; exact hg
  | v :: r, o, cur, w, hg, h => by
    simp only [List.length_cons] at h
    have h1 := rowSet (i := o) hg v
    rw [putAt_one _ _ _ (by omega)] at h1
    have h2 := heap_setCells g t fz r (o + 1) _ _ h1 (by rw [putAt_size _ _ _ (by simp; omega)]; omega)
    rw [putAt_putAt _ _ _ _ _ (by simp) (by simp; omega)] at h2
    exact h2

theorem grownBy_setCells (g : Nat) : ∀ (cs : List Value) (o : Nat) (w : World), w.grownBy (w.setCells g o cs) (some g)
  | [], _, w => World.grownBy.refl _ _
  | v :: r, o, w => by
    have h1 := Lib.grownBy_setCell w g o v
    exact Lib.grownBy_trans h1 (grownBy_setCells g r (o + 1) (w.setCell ⟨g, o, none⟩ v))

/-- A header, as its bytes. -/
def hdr (magic opc : Nat) (kl el dt f6 bl opq cas : Nat) : List UInt8 :=
  [UInt8.ofNat magic] ++ [UInt8.ofNat opc] ++ Lib.beBytes 2 kl ++ [UInt8.ofNat el] ++ [UInt8.ofNat dt] ++ Lib.beBytes 2 f6 ++ Lib.beBytes 4 bl ++ Lib.beBytes 4 opq ++ Lib.beBytes 8 cas
theorem hdr_length (magic opc kl el dt f6 bl opq cas : Nat) : (hdr magic opc kl el dt f6 bl opq cas).length = 24 := by simp [hdr, Lib.beBytes_length]

/-- The nine cells of a header. -/
structure Hd (hd : Nat) (magic opc kl el dt f6 bl opq cas : Nat) (w : World) : Prop where
  bk : w.heap[hd]? = some (.cells #[.int .u8 magic, .int .u8 opc, .int .u16 kl, .int .u8 el, .int .u8 dt, .int .u16 f6, .int .u32 bl, .int .u32 opq, .int .u64 cas] 60 (0, 0))

theorem Hd.grown {hd g magic opc kl el dt f6 bl opq cas : Nat} {w w' : World} (h : Hd hd magic opc kl el dt f6 bl opq cas w) (hg : w.grownBy w' (some g)) (hne : hd ≠ g) : Hd hd magic opc kl el dt f6 bl opq cas w' :=
  ⟨(hg.block hd (Array.getElem?_eq_some_iff.1 h.bk).1 (by simp [hne])).trans h.bk⟩

/-- How far 'put' has come. -/
structure PutSt (hd g o : Nat) (t : TypeId) (cur : Array Value) (done : List UInt8) (w0 w : World) : Prop where
  row : w.heap[g]? = some (.cells (putAt cur o (Lib.byteCells done)) t (0, 0))
  grown : w0.grownBy w (some g)
theorem PutSt.cells {hd g o : Nat} {t : TypeId} {cur : Array Value} {done : List UInt8} {w0 w : World} (h : PutSt hd g o t cur done w0 w) (hs : o + 24 ≤ cur.size) (hd24 : done.length ≤ 24) (i : Nat) (hi : i < 24) : (∃ x, w.cell? ⟨g, o + i, none⟩ = some x) ∧ w.frozen? ⟨g, o + i, none⟩ = false := by
  have hsz := putAt_size cur o (Lib.byteCells done) (by rw [Lib.byteCells_length]; omega)
  refine ⟨?_, frozen_of_row _ _ _ _ _ h.row⟩
  rw [cellRow h.row]
  exact ⟨_, Array.getElem?_eq_getElem (by omega)⟩
theorem PutSt.next {hd g o : Nat} {t : TypeId} {cur : Array Value} {done : List UInt8} {w0 w w1 : World} (h : PutSt hd g o t cur done w0 w) (hs : o + 24 ≤ cur.size) (more : List UInt8) (hl : done.length + more.length ≤ 24) (hw : w.grownBy w1 none) (hgl : g < w.heap.size) (k : Nat) (hk : k = o + done.length) :
    PutSt hd g o t cur (done ++ more) w0 (w1.setCells g k (Lib.byteCells more)) := by
  subst hk
  have e1 : (Lib.byteCells done).length = done.length := Lib.byteCells_length _
  have e2 : (Lib.byteCells more).length = more.length := Lib.byteCells_length _
  have hsz := putAt_size cur o (Lib.byteCells done) (by rw [e1]; omega)
  have h1 := heap_setCells g t (0, 0) (Lib.byteCells more) (o + done.length) _ w1 ((hw.block g hgl (by simp)).trans h.row) (by rw [hsz, e2]; omega)
  rw [putAt_putAt _ _ _ _ _ (by rw [e1]) (by rw [e1, e2]; omega), ← Lib.byteCells_append] at h1
  refine ⟨h1, ?_⟩
  have hg := h.grown
  have hsc := grownBy_setCells g (Lib.byteCells more) (o + done.length) w1
  exact ⟨hsc.os.trans (hw.os.trans hg.os), hsc.tape.trans (hw.tape.trans hg.tape), hsc.output.trans (hw.output.trans hg.output), Nat.le_trans hg.size (Nat.le_trans hw.size hsc.size), fun i hi hne => (hsc.block i (Nat.lt_of_lt_of_le hi (Nat.le_trans hg.size hw.size)) hne).trans ((hw.block i (Nat.lt_of_lt_of_le hi hg.size) (by simp)).trans (hg.block i hi hne))⟩

theorem slice25o (g o n c k : Nat) (hk : k ≤ n) (hc : k < c) (w : World) : (Instr.slice 25 (.slice (some ⟨g, o, none⟩) n c) (some (.int .i64 (k : Int))) none none).run Tryf.prog w = .ok (.slice (some ⟨g, o + k, none⟩) (n - k) (c - k)) w := by
  rw [run_slice25 _ _ _ _ hk, if_neg (by omega), Option.map_some, Addr.add_lit]

theorem byteOne (v : Nat) (h : v < 256) : Lib.byteCells [UInt8.ofNat v] = [.int .u8 v] := by
  simp [Lib.byteCells]
  omega

set_option maxHeartbeats 8000000 in
set_option maxRecDepth 100000 in
/-- (*header).put. -/
theorem f45_to (hd g o n c : Nat) (t : TypeId) (cur : Array Value) (magic opc kl el dt f6 bl opq cas : Nat) (w : World) (h : Hd hd magic opc kl el dt f6 bl opq cas w) (hne : hd ≠ g) (hg : w.heap[g]? = some (.cells cur t (0, 0))) (hs : o + 24 ≤ cur.size) (hn : 24 ≤ n) (hc : n ≤ c)
    (r1 : magic < 256) (r2 : opc < 256) (r3 : kl < 65536) (r4 : el < 256) (r5 : dt < 256) (r6 : f6 < 65536) (r7 : bl < 4294967296) (r8 : opq < 4294967296) (r9 : cas < 18446744073709551616) :
    Calls Tryf.prog 45 #[.pointer (some ⟨hd, 0, none⟩), .slice (some ⟨g, o, none⟩) n c] w fun e w' => e = .returned (.tuple #[]) ∧ w'.heap[g]? = some (.cells (putAt cur o (Lib.byteCells (hdr magic opc kl el dt f6 bl opq cas))) t (0, 0)) ∧ w.grownBy w' (some g) := by
  have s2 : ∀ w, (Instr.slice 25 (.slice (some ⟨g, o, none⟩) n c) (some (.int .i64 2)) none none).run Tryf.prog w = .ok (.slice (some ⟨g, o + 2, none⟩) (n - 2) (c - 2)) w := slice25o g o n c 2 (by omega) (by omega)
  have s6 : ∀ w, (Instr.slice 25 (.slice (some ⟨g, o, none⟩) n c) (some (.int .i64 6)) none none).run Tryf.prog w = .ok (.slice (some ⟨g, o + 6, none⟩) (n - 6) (c - 6)) w := slice25o g o n c 6 (by omega) (by omega)
  have s8 : ∀ w, (Instr.slice 25 (.slice (some ⟨g, o, none⟩) n c) (some (.int .i64 8)) none none).run Tryf.prog w = .ok (.slice (some ⟨g, o + 8, none⟩) (n - 8) (c - 8)) w := slice25o g o n c 8 (by omega) (by omega)
  have s12 : ∀ w, (Instr.slice 25 (.slice (some ⟨g, o, none⟩) n c) (some (.int .i64 12)) none none).run Tryf.prog w = .ok (.slice (some ⟨g, o + 12, none⟩) (n - 12) (c - 12)) w := slice25o g o n c 12 (by omega) (by omega)
  have s16 : ∀ w, (Instr.slice 25 (.slice (some ⟨g, o, none⟩) n c) (some (.int .i64 16)) none none).run Tryf.prog w = .ok (.slice (some ⟨g, o + 16, none⟩) (n - 16) (c - 16)) w := slice25o g o n c 16 (by omega) (by omega)
  have hgl : g < w.heap.size := (Array.getElem?_eq_some_iff.1 hg).1
  have p0 : PutSt hd g o t cur [] w w := ⟨by rw [show Lib.byteCells [] = [] from rfl, putAt_nil]; exact hg, World.grownBy.refl _ _⟩
  have hne' : g ≠ hd := Ne.symm hne
  have H0 := hide h
  clear hg
  obtain ⟨⟨x0, k0⟩, z0⟩ := p0.cells hs (by simp [Lib.beBytes_length]) 0 (by omega)
  have q0 : w.cell? ⟨hd, 0, none⟩ = some (.int .u8 magic) := cellRow h.bk 0
  obtain ⟨w1, hw1⟩ : ∃ w', w.setCell ⟨g, o, none⟩ (.int .u8 magic) = w' := ⟨_, rfl⟩
  have p1 : PutSt hd g o t cur ([] ++ [UInt8.ofNat magic]) w w1 := by
    have := p0.next hs [UInt8.ofNat magic] (by simp [Lib.beBytes_length]) (World.grownBy.refl _ _) (Nat.lt_of_lt_of_le hgl p0.grown.size) (o) (by simp [Lib.beBytes_length])
    rw [byteOne _ r1] at this
    rw [← hw1]
    exact this
  have h1 : Hd hd magic opc kl el dt f6 bl opq cas w1 := H0.out.grown p1.grown hne
  simp only [Nat.add_zero] at k0 z0
  obtain ⟨⟨x1, k1⟩, z1⟩ := p1.cells hs (by simp [Lib.beBytes_length]) 1 (by omega)
  have q1 : w1.cell? ⟨hd, 1, none⟩ = some (.int .u8 opc) := cellRow h1.bk 1
  obtain ⟨w2, hw2⟩ : ∃ w', w1.setCell ⟨g, o + 1, none⟩ (.int .u8 opc) = w' := ⟨_, rfl⟩
  have p2 : PutSt hd g o t cur ([] ++ [UInt8.ofNat magic] ++ [UInt8.ofNat opc]) w w2 := by
    have := p1.next hs [UInt8.ofNat opc] (by simp [Lib.beBytes_length]) (World.grownBy.refl _ _) (Nat.lt_of_lt_of_le hgl p1.grown.size) (o + 1) (by simp [Lib.beBytes_length])
    rw [byteOne _ r2] at this
    rw [← hw2]
    exact this
  have h2 : Hd hd magic opc kl el dt f6 bl opq cas w2 := H0.out.grown p2.grown hne
  have H2 := hide h2
  have P2 := hide p2
  clear p1 h1 p2 h2
  clear p0 h
  go_enter Tryf.func45, Tryf.ntmps45
  go_wp2_with fail
  clear k0 k1 z0 z1 q0 q1 hw1 hw2
  obtain ⟨⟨x2, k2⟩, z2⟩ := (P2.out.cells hs (by simp [Lib.beBytes_length]) 2 (by omega))
  obtain ⟨⟨x3, k3⟩, z3⟩ := (P2.out.cells hs (by simp [Lib.beBytes_length]) 3 (by omega))
  have q2 : w2.cell? ⟨hd, 2, none⟩ = some (.int .u16 kl) := cellRow H2.out.bk 2
  have hput := Tryf.binary_BE_PutUint16 g (o + 2) (n - 2) (c - 2) kl r3 x2 x3 w2.drew (by omega) k2 k3 z2 z3
  clear k2 z2 k3 z3
  have HS0 : Hid (w2.drew.cell? ⟨hd, 2, none⟩ = some (.int .u16 kl)) := q2
  go_region_held3 (fun w' => w'.cell? ⟨hd, 2, none⟩ = some (.int .u16 kl))
    (with_reducible (first | exact HS0.out | exact HS1.out))
    (first
      | (go_at_call 58; refine hput.mono ?_; rintro e w3 ⟨rfl, hw3⟩; have hq := P2.out.next hs (Lib.beBytes 2 kl) (by simp [Lib.beBytes_length]) (w1 := w2.drew.alloc (.cells #[] 83)) (grownBy_trans_none (grownBy_drewN w2 1 none) (World.grownBy_alloc _ _ _)) (Nat.lt_of_lt_of_le hgl P2.out.grown.size) (o + 2) (by simp [Lib.beBytes_length]); have p3 : PutSt hd g o t cur ([] ++ [UInt8.ofNat magic] ++ [UInt8.ofNat opc] ++ Lib.beBytes 2 kl) w w3 := hw3 ▸ hq; clear hq; have h3 := H0.out.grown p3.grown hne; have HS1 : Hid (w3.cell? ⟨hd, 2, none⟩ = some (.int .u16 kl)) := cellRow h3.bk 2; have P3 := hide p3; have H3 := hide h3; clear p3 h3 hw3))
  clear hput q2 HS0 HS1
  obtain ⟨⟨x4, k4⟩, z4⟩ := P3.out.cells hs (by simp [Lib.beBytes_length]) 4 (by omega)
  have q4 : w3.cell? ⟨hd, 3, none⟩ = some (.int .u8 el) := cellRow H3.out.bk 3
  obtain ⟨w4, hw4⟩ : ∃ w', w3.setCell ⟨g, o + 4, none⟩ (.int .u8 el) = w' := ⟨_, rfl⟩
  have p4 : PutSt hd g o t cur ([] ++ [UInt8.ofNat magic] ++ [UInt8.ofNat opc] ++ Lib.beBytes 2 kl ++ [UInt8.ofNat el]) w w4 := by
    have := P3.out.next hs [UInt8.ofNat el] (by simp [Lib.beBytes_length]) (World.grownBy.refl _ _) (Nat.lt_of_lt_of_le hgl P3.out.grown.size) (o + 4) (by simp [Lib.beBytes_length])
    rw [byteOne _ r4] at this
    rw [← hw4]
    exact this
  have h4 : Hd hd magic opc kl el dt f6 bl opq cas w4 := H0.out.grown p4.grown hne
  obtain ⟨⟨x5, k5⟩, z5⟩ := p4.cells hs (by simp [Lib.beBytes_length]) 5 (by omega)
  have q5 : w4.cell? ⟨hd, 4, none⟩ = some (.int .u8 dt) := cellRow h4.bk 4
  obtain ⟨w5, hw5⟩ : ∃ w', w4.setCell ⟨g, o + 5, none⟩ (.int .u8 dt) = w' := ⟨_, rfl⟩
  have p5 : PutSt hd g o t cur ([] ++ [UInt8.ofNat magic] ++ [UInt8.ofNat opc] ++ Lib.beBytes 2 kl ++ [UInt8.ofNat el] ++ [UInt8.ofNat dt]) w w5 := by
    have := p4.next hs [UInt8.ofNat dt] (by simp [Lib.beBytes_length]) (World.grownBy.refl _ _) (Nat.lt_of_lt_of_le hgl p4.grown.size) (o + 5) (by simp [Lib.beBytes_length])
    rw [byteOne _ r5] at this
    rw [← hw5]
    exact this
  have h5 : Hd hd magic opc kl el dt f6 bl opq cas w5 := H0.out.grown p5.grown hne
  have H5 := hide h5
  have P5 := hide p5
  clear p4 h4 p5 h5
  go_wp2_with fail
  clear k4 k5 z4 z5 q4 q5 hw4 hw5
  obtain ⟨⟨x6, k6⟩, z6⟩ := (P5.out.cells hs (by simp [Lib.beBytes_length]) 6 (by omega))
  obtain ⟨⟨x7, k7⟩, z7⟩ := (P5.out.cells hs (by simp [Lib.beBytes_length]) 7 (by omega))
  have q6 : w5.cell? ⟨hd, 5, none⟩ = some (.int .u16 f6) := cellRow H5.out.bk 5
  have hput := Tryf.binary_BE_PutUint16 g (o + 6) (n - 6) (c - 6) f6 r6 x6 x7 w5.drew (by omega) k6 k7 z6 z7
  clear k6 z6 k7 z7
  have HS0 : Hid (w5.drew.cell? ⟨hd, 5, none⟩ = some (.int .u16 f6)) := q6
  go_region_held3 (fun w' => w'.cell? ⟨hd, 5, none⟩ = some (.int .u16 f6))
    (with_reducible (first | exact HS0.out | exact HS1.out))
    (first
      | (go_at_call 58; refine hput.mono ?_; rintro e w6 ⟨rfl, hw6⟩; have hq := P5.out.next hs (Lib.beBytes 2 f6) (by simp [Lib.beBytes_length]) (w1 := w5.drew.alloc (.cells #[] 83)) (grownBy_trans_none (grownBy_drewN w5 1 none) (World.grownBy_alloc _ _ _)) (Nat.lt_of_lt_of_le hgl P5.out.grown.size) (o + 6) (by simp [Lib.beBytes_length]); have p6 : PutSt hd g o t cur ([] ++ [UInt8.ofNat magic] ++ [UInt8.ofNat opc] ++ Lib.beBytes 2 kl ++ [UInt8.ofNat el] ++ [UInt8.ofNat dt] ++ Lib.beBytes 2 f6) w w6 := hw6 ▸ hq; clear hq; have h6 := H0.out.grown p6.grown hne; have HS1 : Hid (w6.cell? ⟨hd, 5, none⟩ = some (.int .u16 f6)) := cellRow h6.bk 5; have P6 := hide p6; have H6 := hide h6; clear p6 h6 hw6))
  clear hput q6 HS0 HS1
  go_wp2_with fail
  obtain ⟨⟨x8, k8⟩, z8⟩ := (P6.out.cells hs (by simp [Lib.beBytes_length]) 8 (by omega))
  obtain ⟨⟨x9, k9⟩, z9⟩ := (P6.out.cells hs (by simp [Lib.beBytes_length]) 9 (by omega))
  obtain ⟨⟨x10, k10⟩, z10⟩ := (P6.out.cells hs (by simp [Lib.beBytes_length]) 10 (by omega))
  obtain ⟨⟨x11, k11⟩, z11⟩ := (P6.out.cells hs (by simp [Lib.beBytes_length]) 11 (by omega))
  have q8 : w6.cell? ⟨hd, 6, none⟩ = some (.int .u32 bl) := cellRow H6.out.bk 6
  have hput := Tryf.binary_BE_PutUint32 g (o + 8) (n - 8) (c - 8) bl r7 x8 x9 x10 x11 w6.drew (by omega) k8 k9 k10 k11 z8 z9 z10 z11
  clear k8 z8 k9 z9 k10 z10 k11 z11
  have HS0 : Hid (w6.drew.cell? ⟨hd, 6, none⟩ = some (.int .u32 bl)) := q8
  go_region_held3 (fun w' => w'.cell? ⟨hd, 6, none⟩ = some (.int .u32 bl))
    (with_reducible (first | exact HS0.out | exact HS1.out))
    (first
      | (go_at_call 59; refine hput.mono ?_; rintro e w7 ⟨rfl, hw7⟩; have hq := P6.out.next hs (Lib.beBytes 4 bl) (by simp [Lib.beBytes_length]) (w1 := w6.drew.alloc (.cells #[] 83)) (grownBy_trans_none (grownBy_drewN w6 1 none) (World.grownBy_alloc _ _ _)) (Nat.lt_of_lt_of_le hgl P6.out.grown.size) (o + 8) (by simp [Lib.beBytes_length]); have p7 : PutSt hd g o t cur ([] ++ [UInt8.ofNat magic] ++ [UInt8.ofNat opc] ++ Lib.beBytes 2 kl ++ [UInt8.ofNat el] ++ [UInt8.ofNat dt] ++ Lib.beBytes 2 f6 ++ Lib.beBytes 4 bl) w w7 := hw7 ▸ hq; clear hq; have h7 := H0.out.grown p7.grown hne; have HS1 : Hid (w7.cell? ⟨hd, 6, none⟩ = some (.int .u32 bl)) := cellRow h7.bk 6; have P7 := hide p7; have H7 := hide h7; clear p7 h7 hw7))
  clear hput q8 HS0 HS1
  go_wp2_with fail
  obtain ⟨⟨x12, k12⟩, z12⟩ := (P7.out.cells hs (by simp [Lib.beBytes_length]) 12 (by omega))
  obtain ⟨⟨x13, k13⟩, z13⟩ := (P7.out.cells hs (by simp [Lib.beBytes_length]) 13 (by omega))
  obtain ⟨⟨x14, k14⟩, z14⟩ := (P7.out.cells hs (by simp [Lib.beBytes_length]) 14 (by omega))
  obtain ⟨⟨x15, k15⟩, z15⟩ := (P7.out.cells hs (by simp [Lib.beBytes_length]) 15 (by omega))
  have q12 : w7.cell? ⟨hd, 7, none⟩ = some (.int .u32 opq) := cellRow H7.out.bk 7
  have hput := Tryf.binary_BE_PutUint32 g (o + 12) (n - 12) (c - 12) opq r8 x12 x13 x14 x15 w7.drew (by omega) k12 k13 k14 k15 z12 z13 z14 z15
  clear k12 z12 k13 z13 k14 z14 k15 z15
  have HS0 : Hid (w7.drew.cell? ⟨hd, 7, none⟩ = some (.int .u32 opq)) := q12
  go_region_held3 (fun w' => w'.cell? ⟨hd, 7, none⟩ = some (.int .u32 opq))
    (with_reducible (first | exact HS0.out | exact HS1.out))
    (first
      | (go_at_call 59; refine hput.mono ?_; rintro e w8 ⟨rfl, hw8⟩; have hq := P7.out.next hs (Lib.beBytes 4 opq) (by simp [Lib.beBytes_length]) (w1 := w7.drew.alloc (.cells #[] 83)) (grownBy_trans_none (grownBy_drewN w7 1 none) (World.grownBy_alloc _ _ _)) (Nat.lt_of_lt_of_le hgl P7.out.grown.size) (o + 12) (by simp [Lib.beBytes_length]); have p8 : PutSt hd g o t cur ([] ++ [UInt8.ofNat magic] ++ [UInt8.ofNat opc] ++ Lib.beBytes 2 kl ++ [UInt8.ofNat el] ++ [UInt8.ofNat dt] ++ Lib.beBytes 2 f6 ++ Lib.beBytes 4 bl ++ Lib.beBytes 4 opq) w w8 := hw8 ▸ hq; clear hq; have h8 := H0.out.grown p8.grown hne; have HS1 : Hid (w8.cell? ⟨hd, 7, none⟩ = some (.int .u32 opq)) := cellRow h8.bk 7; have P8 := hide p8; have H8 := hide h8; clear p8 h8 hw8))
  clear hput q12 HS0 HS1
  go_wp2_with fail
  obtain ⟨⟨x16, k16⟩, z16⟩ := (P8.out.cells hs (by simp [Lib.beBytes_length]) 16 (by omega))
  obtain ⟨⟨x17, k17⟩, z17⟩ := (P8.out.cells hs (by simp [Lib.beBytes_length]) 17 (by omega))
  obtain ⟨⟨x18, k18⟩, z18⟩ := (P8.out.cells hs (by simp [Lib.beBytes_length]) 18 (by omega))
  obtain ⟨⟨x19, k19⟩, z19⟩ := (P8.out.cells hs (by simp [Lib.beBytes_length]) 19 (by omega))
  obtain ⟨⟨x20, k20⟩, z20⟩ := (P8.out.cells hs (by simp [Lib.beBytes_length]) 20 (by omega))
  obtain ⟨⟨x21, k21⟩, z21⟩ := (P8.out.cells hs (by simp [Lib.beBytes_length]) 21 (by omega))
  obtain ⟨⟨x22, k22⟩, z22⟩ := (P8.out.cells hs (by simp [Lib.beBytes_length]) 22 (by omega))
  obtain ⟨⟨x23, k23⟩, z23⟩ := (P8.out.cells hs (by simp [Lib.beBytes_length]) 23 (by omega))
  have q16 : w8.cell? ⟨hd, 8, none⟩ = some (.int .u64 cas) := cellRow H8.out.bk 8
  have hput := Tryf.binary_BE_PutUint64 g (o + 16) (n - 16) (c - 16) cas r9 x16 x17 x18 x19 x20 x21 x22 x23 w8.drew (by omega) k16 k17 k18 k19 k20 k21 k22 k23 z16 z17 z18 z19 z20 z21 z22 z23
  clear k16 z16 k17 z17 k18 z18 k19 z19 k20 z20 k21 z21 k22 z22 k23 z23
  have HS0 : Hid (w8.drew.cell? ⟨hd, 8, none⟩ = some (.int .u64 cas)) := q16
  go_region_held3 (fun w' => w'.cell? ⟨hd, 8, none⟩ = some (.int .u64 cas))
    (with_reducible (first | exact HS0.out | exact HS1.out))
    (first
      | (go_at_call 60; refine hput.mono ?_; rintro e w9 ⟨rfl, hw9⟩; have hq := P8.out.next hs (Lib.beBytes 8 cas) (by simp [Lib.beBytes_length]) (w1 := w8.drew.alloc (.cells #[] 83)) (grownBy_trans_none (grownBy_drewN w8 1 none) (World.grownBy_alloc _ _ _)) (Nat.lt_of_lt_of_le hgl P8.out.grown.size) (o + 16) (by simp [Lib.beBytes_length]); have p9 : PutSt hd g o t cur ([] ++ [UInt8.ofNat magic] ++ [UInt8.ofNat opc] ++ Lib.beBytes 2 kl ++ [UInt8.ofNat el] ++ [UInt8.ofNat dt] ++ Lib.beBytes 2 f6 ++ Lib.beBytes 4 bl ++ Lib.beBytes 4 opq ++ Lib.beBytes 8 cas) w w9 := hw9 ▸ hq; clear hq; have h9 := H0.out.grown p9.grown hne; have HS1 : Hid (w9.cell? ⟨hd, 8, none⟩ = some (.int .u64 cas)) := cellRow h9.bk 8; have P9 := hide p9; have H9 := hide h9; clear p9 h9 hw9))
  clear hput q16 HS0 HS1
  go_wp2
  go_end0
  exact ⟨rfl, P9.out.row, P9.out.grown⟩
end Go.Proofs.Qxb6615679aFmt
