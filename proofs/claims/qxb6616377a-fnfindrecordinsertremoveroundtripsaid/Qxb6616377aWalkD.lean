import Derived.Test.Qxb6616377aWalkC
namespace Go.Proofs.Qxb6616377a
set_option linter.unusedSimpArgs false
open Go.RowKit
set_option linter.unusedVariables false
theorem Try.info30 : (Try.prog.info? 30).map (fun i => (i.zero, i.size, i.bytes)) = some (some (.pointer none), 1, 8) := by kernel_rfl
theorem mk30 (n : Nat) (hn : n ≤ 1048576) (w : World) : (Instr.makeSlice 29 (.int .i64 (n : Int)) (.int .i64 (n : Int))).run Try.prog w = .ok (.slice (some ⟨w.heap.size, 0, none⟩) n n) (w.alloc (.cells (madeCells #[.pointer none] n) 30)) := by
  obtain ⟨i, hi, hz, hs, hb⟩ := info_parts Try.info30
  have hr := run_make (P := Try.prog) w 29 30 i _ Try.underlying29 hi hz .i64 .i64 n n (by omega) (Int.le_refl _) (by rw [hb]; omega) (by omega)
  simpa [hs, Value.cells] using hr

theorem made_get {z : Value} {n i : Nat} (h : i < n) : (madeCells #[z] n)[i]? = some z := by
  simp [madeCells, h, Nat.mod_one]

/-- After k rounds: the row of pointers is block 'w.heap.size', record i is block 'w.heap.size + 1 + i'. -/
structure InvD (w : World) (n : Nat) (ids : List Int) (k : Nat) (wr : World) : Prop where
  bel : Below w.heap.size w wr
  size : wr.heap.size = w.heap.size + 1 + k
  frz : ∀ i, i < n → wr.frozen? ⟨w.heap.size, i, none⟩ = false
  ptr : ∀ i, i < k → wr.cell? ⟨w.heap.size, i, none⟩ = some (.pointer (some ⟨w.heap.size + 1 + i, 0, none⟩))
  nil : ∀ i, k ≤ i → i < n → wr.cell? ⟨w.heap.size, i, none⟩ = some (.pointer none)
  rc : ∀ i, i < k → wr.cell? ⟨w.heap.size + 1 + i, 0, none⟩ = some (.int .i64 (ids.getD i 0))

theorem InvD.start (w : World) (n : Nat) (ids : List Int) : InvD w n ids 0 (w.alloc (.cells (madeCells #[.pointer none] n) 30)) where
  bel := (Below.refl _ _).alloc (Nat.le_refl _) _
  size := by simp
  frz := fun i _ => by simp
  ptr := fun i h => absurd h (Nat.not_lt_zero _)
  nil := fun i _ h => by rw [World.cell?_alloc_new, made_get h]
  rc := fun i h => absurd h (Nat.not_lt_zero _)

theorem InvD.step {w wr : World} {n : Nat} {ids : List Int} {k : Nat} (h : InvD w n ids k wr) (hk : k < n) (cs : Array Value) (h0 : cs[0]? = some (.int .i64 (ids.getD k 0))) (t : TypeId) :
    InvD w n ids (k + 1) ((wr.setCell ⟨w.heap.size, k, none⟩ (.pointer (some ⟨wr.heap.size, 0, none⟩))).alloc (.cells cs t)) := by
  have hs := h.size
  have hs2 : (wr.setCell ⟨w.heap.size, k, none⟩ (.pointer (some ⟨wr.heap.size, 0, none⟩))).heap.size = wr.heap.size := World.size_setCell _ _ _
  refine ⟨?_, ?_, ?_, ?_, ?_, ?_⟩
  · exact (h.bel.setCell (Nat.le_refl _) _).alloc (by omega) _
  · simp; omega
  · intro i hi
    rw [World.frozen?_alloc_old _ _ _ (by simp; omega), World.frozen?_setCell]
    exact h.frz i hi
  · intro i hi
    rw [World.cell?_alloc_lt _ _ _ (by simp; omega)]
    by_cases e : i = k
    · subst e
      rw [World.cell?_setCell_same _ _ _ (h.nil i (Nat.le_refl _) hk), hs]
    · rw [World.cell?_setCell_other _ _ _ _ (by intro e'; cases e'; omega)]
      exact h.ptr i (by omega)
  · intro i h1 h2
    rw [World.cell?_alloc_lt _ _ _ (by simp; omega), World.cell?_setCell_other _ _ _ _ (by intro e'; cases e'; omega)]
    exact h.nil i (by omega) h2
  · intro i hi
    by_cases e : i = k
    · subst e
      generalize wr.setCell ⟨w.heap.size, i, none⟩ (.pointer (some ⟨wr.heap.size, 0, none⟩)) = W' at hs2 ⊢
      rw [show w.heap.size + 1 + i = W'.heap.size by omega, World.cell?_alloc_new, h0]
    · rw [World.cell?_alloc_lt _ _ _ (by simp; omega), World.cell?_setCell_other _ _ _ _ (by intro e'; have := congrArg Addr.block e'; simp at this; omega)]
      exact h.rc i (by omega)

/-- WHAT 'ZZnewServerWithRecordIDs' LEAVES: the pointer v leads to a Server whose records carry the numbers ids. -/
def SrvIs (w : World) (n : Nat) (ids : List Int) (v : Value) (w' : World) : Prop :=
  ∃ (sb g cap : Nat) (rb : Nat → Nat), v = .pointer (some ⟨sb, 0, none⟩) ∧ w'.cell? ⟨sb, 20, none⟩ = some (.slice (some ⟨g, 0, none⟩) n cap) ∧
    (∀ i, i < n → w'.cell? ⟨g, i, none⟩ = some (.pointer (some ⟨rb i, 0, none⟩))) ∧ (∀ i, i < n → w'.cell? ⟨rb i, 0, none⟩ = some (.int .i64 (ids.getD i 0))) ∧ Below w.heap.size w w'

theorem InvD.done {w wr : World} {n : Nat} {ids : List Int} (h : InvD w n ids n wr) (cs : Array Value) (t : TypeId) (h0 : cs[20]? = some (.slice (some ⟨w.heap.size, 0, none⟩) n n)) :
    ∀ a, a = wr.heap.size → SrvIs w n ids (.pointer (some ⟨a, 0, none⟩)) (wr.alloc (.cells cs t)) := by
  rintro a rfl
  have hs := h.size
  refine ⟨wr.heap.size, w.heap.size, n, fun i => w.heap.size + 1 + i, rfl, ?_, ?_, ?_, h.bel.alloc (by omega) _⟩
  · rw [World.cell?_alloc_new, h0]
  · intro i hi; rw [World.cell?_alloc_lt _ _ _ (by simp; omega)]; exact h.ptr i hi
  · intro i hi; rw [World.cell?_alloc_lt _ _ _ (by simp; omega)]; exact h.rc i hi

set_option maxHeartbeats 400000 in
set_option maxRecDepth 100000 in
theorem f7_some (b n cap : Nat) (ids : List Int) (w : World) (hsz : n ≤ 1048576) (hb : 0 < n → b < w.heap.size)
    (hc : ∀ i, i < n → w.cell? ⟨b, i, none⟩ = some (.int .i64 (ids.getD i 0))) :
    Calls Try.prog 7 #[.slice (some ⟨b, 0, none⟩) n cap] w fun e w' => ∃ v, e = .returned v ∧ SrvIs w n ids v w' := by
  have HC : Hid (∀ i, i < n → w.cell? ⟨b, i, none⟩ = some (.int .i64 (ids.getD i 0))) := hc
  clear hc
  have hmk := mk30 n hsz
  go_enter Try.func7, Try.ntmps7
  go_wp2
  clear hmk
  go_loopw [4, 10] (fun s4 s10 wr => ∃ k : Nat, k ≤ n ∧ s10 = .int .i64 k ∧ InvD w n ids k wr) (fun s4 s10 wr => n - (intOf s10).toNat)
  case atStart => exact ⟨0, Nat.zero_le _, rfl, InvD.start _ _ _⟩
  case round =>
    obtain ⟨k, hk, rfl, hinv⟩ := hrel
    by_cases hlt : k < n
    · have h1 : wr.cell? ⟨b, k, none⟩ = some (.int .i64 (ids.getD k 0)) := (hinv.bel.cell (by exact hb (by omega))).trans (HC.out k hlt)
      have hcw := hinv.nil k (Nat.le_refl _) hlt
      have hfw := hinv.frz k hlt
      have hszw : w.heap.size < wr.heap.size := by have := hinv.size; omega
      have hst := fun cs h0 t => hinv.step hlt cs h0 t
      generalize hx : ids.getD k 0 = x at h1 hst
      have HX : Hid (ids.getD k 0 = x) := hx
      have HST : Hid (∀ (cs : Array Value), cs[0]? = some (.int .i64 x) → ∀ t : TypeId, InvD w n ids (k + 1) ((wr.setCell ⟨w.heap.size, k, none⟩ (.pointer (some ⟨wr.heap.size, 0, none⟩))).alloc (.cells cs t))) := hst
      clear hx hst
      go_wp2
      go_roundw
      case rel => exact ⟨k + 1, by omega, by go_num, HST.out _ (by simp) _⟩
      case measure => simp [intOf]; omega
    · obtain rfl : k = n := by omega
      go_wp2
      go_ret
      exact ⟨_, rfl, hinv.done _ _ (by simp) _ rfl⟩

set_option maxHeartbeats 400000 in
set_option maxRecDepth 100000 in
theorem f7_nil (w : World) :
    Calls Try.prog 7 #[.slice none 0 0] w fun e w' => ∃ v, e = .returned v ∧ SrvIs w 0 [] v w' := by
  have hmk : ∀ w, (Instr.makeSlice 29 (.int .i64 0) (.int .i64 0)).run Try.prog w = .ok (.slice (some ⟨w.heap.size, 0, none⟩) 0 0) (w.alloc (.cells (madeCells #[.pointer none] 0) 30)) := mk30 0 (by omega)
  have st := InvD.start w 0 []
  have H : Hid (InvD w 0 [] 0 (w.alloc (.cells (madeCells #[.pointer none] 0) 30))) := st
  clear st
  go_enter Try.func7, Try.ntmps7
  go_wp2
  refine wp_loop_rounds 1 ?_
  rw [rounds_succ]
  go_wp2
  go_ret
  exact ⟨.pointer (some ⟨w.heap.size + 1, 0, none⟩), rfl, H.out.done _ _ rfl _ (by simp)⟩
end Go.Proofs.Qxb6616377a
