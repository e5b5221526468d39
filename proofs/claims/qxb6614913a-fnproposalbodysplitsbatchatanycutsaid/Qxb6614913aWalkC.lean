import Derived.Test.Qxb6614913aWalkB
namespace Go.Proofs.Qxb6614913a
open Go.RowKit
set_option linter.unusedVariables false
set_option linter.unusedSimpArgs false

/-- A slice of uint64s that a write to v's row does not touch. -/
def SrcU (w : World) (v : Value) (x : Value) (ns : List Int) : Prop :=
  (x = .slice none 0 0 ∧ ns = []) ∨ ∃ g c, x = .slice (some ⟨g, 0, none⟩) ns.length c ∧ g < w.heap.size ∧ some g ≠ v.ownBlock ∧ ∀ j, j < ns.length → w.cell? ⟨g, j, none⟩ = some (.int .u64 (ns.getD j 0))

theorem SrcU.fr {w w1 : World} {v v1 x : Value} {ns : List Int} (h : SrcU w v x ns) (hf : Fr w v w1 v1) : SrcU w1 v1 x ns := by
  rcases h with h | ⟨g, c, rfl, hg, hne, hc⟩
  · exact .inl h
  · exact .inr ⟨g, c, rfl, Nat.lt_of_lt_of_le hg hf.grown.size, hf.sep hg hne, fun j hj => (hf.cell (by exact hg) (by exact hne)).trans (hc j hj)⟩

/-- The varints of the numbers, one behind the other. -/
def encN (ns : List Int) : List UInt8 := ns.flatMap uv
theorem encN_snoc (ns : List Int) (k : Nat) (h : k < ns.length) : encN (ns.take (k + 1)) = encN (ns.take k) ++ uv (ns.getD k 0) := by
  unfold encN
  rw [List.take_succ_eq_append_getElem h, List.flatMap_append]
  simp [List.getD, h]
theorem encN_len (ns : List Int) (h : ∀ n ∈ ns, n < 18446744073709551616) : (encN ns).length ≤ 10 * ns.length := by
  induction ns with
  | nil => simp [encN]
  | cons a t ih =>
    have h1 := uv_len a (h a (by simp))
    have h2 := ih (fun n hn => h n (by simp [hn]))
    unfold encN at h2 ⊢
    rw [List.flatMap_cons, List.length_append, List.length_cons]
    omega
/-- 'appendSeqs'. -/
def encU (ns : List Int) : List UInt8 := uv ns.length ++ encN ns

set_option maxHeartbeats 1000000 in
theorem f22_to (v xv : Value) (l : List UInt8) (ns : List Int) (w : World) (r : List UInt8) (hv : Buf w v l) (hx : SrcU w v xv ns) (hn : ∀ n ∈ ns, 0 ≤ n ∧ n < 18446744073709551616) (hs : ns.length ≤ 1048576) (hlim : l.length + 20000000 ≤ 1099511627776) (hr : l ++ encU ns = r) :
    Calls Try.prog 22 #[v, xv] w fun e w' => ∃ v', e = .returned v' ∧ Buf w' v' r ∧ Fr w v w' v' := by
  obtain ⟨r1, hr1⟩ : ∃ r1 : List UInt8, l ++ uv ns.length = r1 := ⟨_, rfl⟩
  have h16 := f16_to v l (ns.length : Int) w r1 (by omega) (by omega) hv (by omega) hr1
  have hl1 : r1.length ≤ l.length + 10 := by rw [← hr1, List.length_append]; have := uv_len (ns.length : Int) (by omega); omega
  have HR : Hid (r1 ++ encN ns = r) := by show _ = _; rw [← hr1, ← hr]; simp [encU]
  have HN : Hid (∀ n ∈ ns, 0 ≤ n ∧ n < 18446744073709551616) := hn
  clear hr hr1 hn
  rcases hx with ⟨rfl, rfl⟩ | ⟨g, c, rfl, hg, hne, hc⟩
  · have h16' : Calls Try.prog 16 #[v, .int .u64 0] w fun e w' => ∃ v', e = .returned v' ∧ Buf w' v' r1 ∧ Fr w v w' v' := h16
    clear h16
    go_enter Try.func22, Try.ntmps22
    go_wp2_with (go_at_call 16; refine h16'.mono ?_; rintro e w1 ⟨v1, rfl, hb1, hf1⟩)
    refine wp_loop_rounds 1 ?_
    rw [rounds_succ]
    go_wp2
    go_ret
    have e : r1 = r := by rw [← HR.out]; simp [encN]
    rw [← e]
    exact ⟨v1, rfl, hb1, hf1⟩
  · have HC : Hid (∀ j, j < ns.length → w.cell? ⟨g, j, none⟩ = some (.int .u64 (ns.getD j 0))) := hc
    clear hc
    obtain ⟨n, hnl⟩ : ∃ n, ns.length = n := ⟨_, rfl⟩
    rw [hnl] at hs h16 ⊢
    have HNL : Hid (ns.length = n) := hnl
    clear hnl
    go_enter Try.func22, Try.ntmps22
    go_wp2_with (go_at_call 16; refine h16.mono ?_; rintro e w1 ⟨v1, rfl, hb1, hf1⟩)
    clear h16
    go_loopw [0, 14] (fun vb s14 wr => ∃ (k : Nat) (q : List UInt8), k ≤ n ∧ s14 = .int .i64 k ∧ Hid (q = r1 ++ encN (ns.take k)) ∧ Buf wr vb q ∧ Fr w v wr vb) (fun _ s14 _ => n - (intOf s14).toNat)
    case atStart => exact ⟨0, r1, Nat.zero_le _, rfl, by show _ = _; simp [encN], hb1, hf1⟩
    case round =>
      obtain ⟨k, q, hk, rfl, HQ, hbq, hfq⟩ := hrel
      by_cases hkn : k < n
      · have c1 : wr.cell? ⟨g, k, none⟩ = some (.int .u64 (ns.getD k 0)) := (hfq.cell (by exact hg) (by exact hne)).trans (HC.out k (by rw [HNL.out]; exact hkn))
        have hmem : ns.getD k 0 ∈ ns := by
          have h : k < ns.length := by rw [HNL.out]; exact hkn
          simp [List.getD, h]
        have hbd := HN.out _ hmem
        have hql : q.length ≤ l.length + 10 + 10 * k := by
          rw [HQ.out, List.length_append]
          have := encN_len (ns.take k) (fun m hm => (HN.out m (List.mem_of_mem_take hm)).2)
          have h2 : (ns.take k).length ≤ k := List.length_take_le _ _
          omega
        generalize hy : ns.getD k 0 = y at c1 hbd
        have HY : Hid (ns.getD k 0 = y) := hy
        obtain ⟨q2, hq2⟩ : ∃ q2 : List UInt8, q ++ uv y = q2 := ⟨_, rfl⟩
        have hc16 := f16_to _ q y wr q2 hbd.1 hbd.2 hbq (by omega) hq2
        have HQ2 : Hid (q ++ uv y = q2) := hq2
        clear hy hq2 hmem
        go_wp2_with (go_at_call 16; refine hc16.mono ?_; rintro e w2 ⟨v2, rfl, hb2, hf2⟩)
        go_roundw
        case rel =>
          refine ⟨k + 1, q2, by omega, by go_num, ?_, hb2, hfq.trans hf2⟩
          show _ = _
          rw [← HQ2.out, HQ.out, encN_snoc ns k (by rw [HNL.out]; exact hkn), HY.out, List.append_assoc]
        case measure => simp [intOf]; omega
      · obtain rfl : k = n := by omega
        go_wp2
        go_ret
        have e : q = r := by rw [HQ.out, ← HR.out, List.take_of_length_le (by rw [HNL.out]; exact Nat.le_refl _)]
        rw [← e]
        exact ⟨_, rfl, hbq, hfq⟩
end Go.Proofs.Qxb6614913a
