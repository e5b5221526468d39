import Derived.Test.Qxb6615679aFmtWalkK
namespace Go.Proofs.Qxb6615679aFmt
open Go.RowKit
set_option linter.unusedVariables false
set_option linter.unusedSimpArgs false

theorem as43_42 (v : Value) (w : World) : (Instr.typeAssert (.iface 43 v) 88 42 true).run Tryf.prog w = .ok (.tuple #[.pointer none, .bool false]) w := by kernel_rfl

set_option maxHeartbeats 4000000 in
set_option maxRecDepth 100000 in
/-- bufio.NewWriterSize over a bytes.Buffer. -/
theorem f28_to (b : Nat) (size : Int) (S : Nat) (w : World) (hsz : (size ≤ 0 ∧ S = 4096) ∨ (0 < size ∧ size = S)) (hS : S ≤ 65536) :
    Calls Tryf.prog 28 #[.iface 43 (.pointer (some ⟨b, 0, none⟩)), .int .i64 size] w fun e w' => e = .returned (.pointer (some ⟨w.heap.size + 1, 0, none⟩)) ∧
      w' = (w.alloc (.cells (madeCells #[.int .u8 0] S) 5)).alloc (.cells #[.nilIface, .slice (some ⟨w.heap.size, 0, none⟩) S S, .int .i64 0, .iface 43 (.pointer (some ⟨b, 0, none⟩))] 91) := by
  have has := as43_42
  rcases hsz with ⟨h0, rfl⟩ | ⟨h0, rfl⟩
  · have hmk : ∀ w, (Instr.makeSlice 25 (.int .i64 4096) (.int .i64 4096)).run Tryf.prog w = .ok (.slice (some ⟨w.heap.size, 0, none⟩) 4096 4096) (w.alloc (.cells (madeCells #[.int .u8 0] 4096) 5)) := mk25 4096 4096 (by omega) (by omega)
    go_enter Tryf.func28, Tryf.ntmps28
    go_wp2
    go_ret
    exact ⟨rfl, rfl⟩
  · have hmk := mk25 S S (by omega) (by omega)
    have h1 : ¬ ((S : Int) ≤ 0) := by omega
    go_enter Tryf.func28, Tryf.ntmps28
    go_wp2
    go_ret
    exact ⟨rfl, rfl⟩

theorem fresh_Wst (w : World) (S : Nat) (h0 : 0 < S) (hS : S ≤ 65536) : ∀ w1 w', w1 = w.alloc (.cells #[.slice none 0 0, .int .i64 0, .int .i8 0] 65) →
    w' = (w1.alloc (.cells (madeCells #[.int .u8 0] S) 5)).alloc (.cells #[.nilIface, .slice (some ⟨w1.heap.size, 0, none⟩) S S, .int .i64 0, .iface 43 (.pointer (some ⟨w.heap.size, 0, none⟩))] 91) →
    Wst w.heap.size (w.heap.size + 2) (w.heap.size + 1) S (.slice none 0 0) [] [] w' ∧ w.grownBy w' none := by
  rintro w1 w' rfl rfl
  have hp : ∀ (x : World) (o : Obj), (x.alloc o).heap[x.heap.size]? = some o := fun x o => by unfold World.alloc; exact Array.getElem?_push_size
  have ho : ∀ (x : World) (o : Obj) (k : Nat), k < x.heap.size → (x.alloc o).heap[k]? = x.heap[k]? := fun x o k hk => Below.heap_alloc x o k hk
  have s1 : (w.alloc (.cells #[.slice none 0 0, .int .i64 0, .int .i8 0] 65)).heap.size = w.heap.size + 1 := World.size_alloc _ _
  have s2 : ((w.alloc (.cells #[.slice none 0 0, .int .i64 0, .int .i8 0] 65)).alloc (.cells (madeCells #[.int .u8 0] S) 5)).heap.size = w.heap.size + 2 := by rw [World.size_alloc, s1]
  refine ⟨⟨⟨⟨0, ?_⟩, World.ownsRow_nil _ _ _ _, fun _ => rfl⟩, ?_, ⟨madeCells #[.int .u8 0] S, ?_, size_madeCells _ _, rfl⟩, Nat.zero_le _, h0, hS, by simp [Value.ownBlock]⟩, ?_⟩
  · rw [ho _ _ _ (by rw [s2]; omega), ho _ _ _ (by rw [s1]; omega)]; exact hp _ _
  · rw [← s2, hp, s1]; rfl
  · rw [ho _ _ _ (by rw [s2]; omega), ← s1]; exact hp _ _
  · exact grownBy_trans_none (World.grownBy_alloc _ _ _) (grownBy_trans_none (World.grownBy_alloc _ _ _) (World.grownBy_alloc _ _ _))

set_option maxHeartbeats 4000000 in
set_option maxRecDepth 100000 in
/-- ZZnewWriter. -/
theorem f15_to (size : Int) (w : World) (hsz : size ≤ 65536) :
    Calls Tryf.prog 15 #[.int .i64 size] w fun e w' => ∃ S, e = .returned (.tuple #[.pointer (some ⟨w.heap.size + 2, 0, none⟩), .pointer (some ⟨w.heap.size, 0, none⟩)]) ∧ Wst w.heap.size (w.heap.size + 2) (w.heap.size + 1) S (.slice none 0 0) [] [] w' ∧ w.grownBy w' none := by
  obtain ⟨S, hS0, hS, hor⟩ : ∃ S : Nat, 0 < S ∧ S ≤ 65536 ∧ ((size ≤ 0 ∧ S = 4096) ∨ (0 < size ∧ size = S)) := by
    by_cases h : size ≤ 0
    · exact ⟨4096, by omega, by omega, .inl ⟨h, rfl⟩⟩
    · exact ⟨size.toNat, by omega, by omega, .inr ⟨by omega, by omega⟩⟩
  have key := fresh_Wst w S hS0 hS
  have HOR := hide hor
  have HK := hide key
  clear hor key
  go_enter Tryf.func15, Tryf.ntmps15
  go_wp2_with fail
  refine (f28_to _ size S _ HOR.out hS).mono ?_
  rintro e w2 ⟨rfl, hw2⟩
  have hk := HK.out _ w2 rfl hw2
  have HK2 := hide hk
  clear hk hw2
  simp only [World.size_alloc]
  go_wp2
  go_ret2
  exact ⟨S, rfl, HK2.out⟩

set_option maxRecDepth 100000 in
/-- (*bytes.Buffer).Bytes. -/
theorem f31_to (b : Nat) (v : Value) (l : List UInt8) (w : World) (h : BSt b v l w) :
    Calls Tryf.prog 31 #[.pointer (some ⟨b, 0, none⟩)] w fun e w' => e = .returned v ∧ ∃ k, w' = w.drewN k := by
  obtain ⟨lr, hb⟩ := h.bk
  have c0 : w.cell? ⟨b, 0, none⟩ = some v := cellRow hb 0
  have c1 : w.cell? ⟨b, 1, none⟩ = some (.int .i64 0) := cellRow hb 1
  obtain ⟨ao, n, c, rfl, hs⟩ : ∃ ao n c, v = .slice ao n c ∧ ∀ w, (Instr.slice 25 (.slice ao n c) (some (.int .i64 0)) none none).run Tryf.prog w = .ok (.slice ao n c) w := by
    obtain ⟨-, ⟨rfl, -⟩ | ⟨g, cap, cur, rfl, -⟩⟩ := h.own
    · refine ⟨none, 0, 0, rfl, fun w => ?_⟩
      have := run_slice25 none 0 0 0 (by omega) w
      simpa using this
    · refine ⟨some ⟨g, 0, none⟩, l.length, cap, rfl, fun w => ?_⟩
      have := run_slice25 (some ⟨g, 0, none⟩) l.length 0 cap (by omega) w
      simp only [Nat.sub_zero, Option.map_some, Addr.add_lit, Nat.add_zero] at this
      rw [show (if cap = 0 then some (⟨g, 0, none⟩ : Addr) else some ⟨g, 0, none⟩) = some ⟨g, 0, none⟩ by split <;> rfl] at this
      exact this
  clear h hb
  go_enter Tryf.func31, Tryf.ntmps31
  go_wp2
  go_quiet (fail)
  go_wp2
  go_ret
  exact ⟨rfl, _, rfl⟩

set_option maxRecDepth 100000 in
/-- ZZflushed: all that was written. -/
theorem f17_to (b wb gb S : Nat) (v : Value) (l m : List UInt8) (w : World) (h : Wst b wb gb S v l m w) (hlim : l.length + m.length ≤ 1099511627776) :
    Calls Tryf.prog 17 #[.pointer (some ⟨wb, 0, none⟩), .pointer (some ⟨b, 0, none⟩)] w fun e w' => ∃ v', e = .returned v' ∧ Buf w' v' (l ++ m) ∧ WFr b wb gb v w w' v' := by
  have h30 := f30_to b wb gb S v l m w h hlim
  clear h
  go_enter Tryf.func17, Tryf.ntmps17
  go_wp2_with fail
  refine h30.mono ?_
  rintro e w1 ⟨rfl, v', hst, hfr⟩
  clear h30
  have h31 := f31_to b v' (l ++ m) w1 hst.buf
  have HST := hide hst
  have HFR := hide hfr
  clear hst hfr
  go_wp2_with fail
  refine h31.mono ?_
  rintro e w2 ⟨rfl, k, hw2⟩
  have hb : Buf w2 v' (l ++ m) ∧ WFr b wb gb v' w1 w2 v' := by rw [hw2]; exact ⟨HST.out.buf.own.grown (grownBy_drewN w1 k none), WFr.drew k⟩
  have HB := hide hb
  clear hb hw2 h31
  go_wp2
  go_ret
  exact ⟨v', rfl, HB.out.1, HFR.out.trans HB.out.2⟩
end Go.Proofs.Qxb6615679aFmt
