import Derived.Test.Qxb6615679aFmtWalkM
namespace Go.Proofs.Qxb6615679aFmt
open Go.RowKit Go.Extern.Stop Go.Stop Go.Extern
set_option linter.unusedVariables false
set_option linter.unusedSimpArgs false

/-- One of the three slices, as it came in. -/
structure Raw (w : World) (ao : Option Addr) (n c : Nat) (s : List UInt8) : Prop where
  len : s.length = n
  le : n ≤ c
  nil : ao = none → n = 0 ∧ c = 0
  src : ∀ ad, ao = some ad → SrcA w ad s
theorem Raw.grown {w w' : World} {ao : Option Addr} {n c : Nat} {s : List UInt8} (h : Raw w ao n c s) (hg : w.grownBy w' none) : Raw w' ao n c s := by
  refine ⟨h.len, h.le, h.nil, fun ad e => ⟨fun j hj => ?_⟩⟩
  have hc := (h.src ad e).cell j hj
  have hl := World.block_lt_of_cell? w _ hc
  exact (World.cell?_of_block (hg.block _ hl (by simp))).trans hc
theorem Raw.arg {w w' : World} {ao : Option Addr} {n c : Nat} {s : List UInt8} (h : Raw w ao n c s) (hg : w.grownBy w' none) : Arg w.heap.size (w.heap.size + 2) (w.heap.size + 1) (.slice none 0 0) w' ao n c s := by
  have h' := h.grown hg
  refine ⟨⟨h'.len, h'.le, fun e => (h'.nil e).1, h'.src, fun ad e hn => ?_⟩, fun e => (h'.nil e).2⟩
  have hc := (h.src ad e).cell 0 (by have := h.len; omega)
  have hl := World.block_lt_of_cell? w _ hc
  rw [addBlock] at hl
  have := hg.size
  exact ⟨by omega, by omega, by omega, by omega, by simp [Value.ownBlock]⟩
theorem WFr.grown0 {w w1 w' : World} {v' : Value} (hg : w.grownBy w1 none) (h : WFr w.heap.size (w.heap.size + 2) (w.heap.size + 1) (.slice none 0 0) w1 w' v') : w.grownBy w' none :=
  ⟨h.os.trans hg.os, h.tape.trans hg.tape, h.output.trans hg.output, Nat.le_trans hg.size h.size, fun k hk hne => (h.block k (Nat.lt_of_lt_of_le hk hg.size) (by omega) (by omega) (by omega) (by simp [Value.ownBlock])).trans (hg.block k hk hne)⟩

/-- zzWireOK. -/
theorem f11_to (a1 a2 a3 : Option Addr) (n1 n2 n3 c1 c2 c3 : Nat) (w : World) (q1 : n1 ≤ 1048576) (q2 : n2 ≤ 1048576) (q3 : n3 ≤ 1048576) :
    Calls Tryf.prog 11 #[.slice a1 n1 c1, .slice a2 n2 c2, .slice a3 n3 c3] w fun e w' => ∃ r, e = .returned (.bool r) ∧ (r = true ↔ n1 ≤ 255 ∧ n2 ≤ 250) ∧ w' = w := by
  by_cases h1 : n1 ≤ 255
  · by_cases h2 : n2 ≤ 250
    · go_enter Tryf.func11, Tryf.ntmps11
      go_wp2
      go_ret
      exact ⟨_, rfl, by simp [h1, h2]; omega, rfl⟩
    · go_enter Tryf.func11, Tryf.ntmps11
      go_wp2
      all_goals first | (exfalso; omega) | (go_ret; exact ⟨rfl, rfl⟩)
  · go_enter Tryf.func11, Tryf.ntmps11
    go_wp2
    all_goals first | (exfalso; omega) | (go_ret; exact ⟨rfl, rfl⟩)

/-- zzBytes. -/
theorem f20_to (size opc f6 opq cas : Int) (a1 a2 a3 : Option Addr) (n1 n2 n3 c1 c2 c3 : Nat) (w : World) (q1 : n1 ≤ maxLen) (q2 : n2 ≤ maxLen) (q3 : n3 ≤ maxLen) :
    Calls Tryf.prog 20 #[.int .i64 size, .int .u8 opc, .int .u16 f6, .int .u32 opq, .int .u64 cas, .slice a1 n1 c1, .slice a2 n2 c2, .slice a3 n3 c3] w fun e w' => ∃ r, e = .returned (.bool r) ∧ (r = true → n1 ≤ 1048576 ∧ n2 ≤ 1048576 ∧ n3 ≤ 1048576) ∧ w' = w := by
  go_enter Tryf.func20, Tryf.ntmps20
  go_wp2
  all_goals (go_ret; exact ⟨_, rfl, fun h => by first | (exact absurd h (by decide)) | (refine ⟨?_, ?_, ?_⟩ <;> omega), rfl⟩)

set_option maxHeartbeats 4000000 in
set_option maxRecDepth 100000 in
/-- zzSame of two slices that read alike. -/
theorem f21_to (g1 o1 g2 o2 n c1 c2 : Nat) (s : List UInt8) (w : World) (hs : s.length = n) (hn : n ≤ 1099511627776) (h1 : SrcA w ⟨g1, o1, none⟩ s) (h2 : SrcA w ⟨g2, o2, none⟩ s) :
    Calls Tryf.prog 21 #[.slice (some ⟨g1, o1, none⟩) n c1, .slice (some ⟨g2, o2, none⟩) n c2] w fun e w' => e = .returned (.bool true) ∧ ∃ k, w' = w.drewN k := by
  have H1 := hide h1
  have H2 := hide h2
  have HS := hide hs
  clear h1 h2 hs
  go_enter Tryf.func21, Tryf.ntmps21
  go_wp2
  go_loopw [5] (fun s5 wr => ∃ i j : Nat, i ≤ n ∧ s5 = .int .i64 i ∧ wr = w.drewN j) (fun s5 wr => n - (intOf s5).toNat)
  case atStart => exact ⟨0, 0, by omega, rfl, rfl⟩
  case round =>
    obtain ⟨i, j, hi, rfl, rfl⟩ := hrel
    by_cases hin : i < n
    · have d1 := H1.out.cell i (by rw [HS.out]; exact hin)
      have d2 := H2.out.cell i (by rw [HS.out]; exact hin)
      rw [Addr.add_lit] at d1 d2
      generalize ((s.getD i 0).toNat : Int) = x at d1 d2
      go_wp2
      go_quiet (fail)
      go_wp2
      go_roundw
      case rel => exact ⟨i + 1, _, by omega, by simp, rfl⟩
      case measure => simp [intOf]; omega
    · obtain rfl : n = i := by omega
      go_wp2
      go_ret
      exact ⟨rfl, _, rfl⟩

set_option maxHeartbeats 4000000 in
set_option maxRecDepth 100000 in
/-- zzWriteRequest within the limits. -/
theorem f10_ok (size : Int) (rb opc dt f6 opq cas : Nat) (a1 a2 a3 : Option Addr) (n1 n2 n3 c1 c2 c3 : Nat) (s1 s2 s3 : List UInt8) (w : World) (hsz : size ≤ 65536) (hr : w.heap[rb]? = some (.cells #[.int .u8 opc, .int .u8 dt, .int .u16 f6, .int .u32 opq, .int .u64 cas, .slice a1 n1 c1, .slice a2 n2 c2, .slice a3 n3 c3, .bool false] 30 (0, 0)))
    (p1 : Raw w a1 n1 c1 s1) (p2 : Raw w a2 n2 c2 s2) (p3 : Raw w a3 n3 c3 s3) (q1 : n1 ≤ 255) (q2 : n2 ≤ 250) (q3 : n3 ≤ 1048576) (r2 : opc < 256) (r5 : dt < 256) (r6 : f6 < 65536) (r8 : opq < 4294967296) (r9 : cas < 18446744073709551616) :
    Calls Tryf.prog 10 #[.int .i64 size, .pointer (some ⟨rb, 0, none⟩)] w fun e w' => ∃ v, e = .returned (.tuple #[v, .bool false]) ∧ Buf w' v (hdr 128 opc n2 n1 dt f6 (n1 + n2 + n3) opq cas ++ s1 ++ s2 ++ s3) ∧ w.grownBy w' none := by
  have hlt : rb < w.heap.size := (Array.getElem?_eq_some_iff.1 hr).1
  have HR := hide hr
  have HP1 := hide p1
  have HP2 := hide p2
  have HP3 := hide p3
  clear hr p1 p2 p3
  go_enter Tryf.func10, Tryf.ntmps10
  go_wp2_with fail
  refine (f15_to size w hsz).mono ?_
  rintro e w1 ⟨S, rfl, hst1, hg1⟩
  have hst1' : Wst w.heap.size (w.heap.size + 2) (w.heap.size + 1) S (.slice none 0 0) [] [] w1.drew := hst1.drew 1
  have hg1' : w.grownBy w1.drew none := grownBy_trans_none hg1 (grownBy_drewN w1 1 none)
  have h29 := f29_ok w.heap.size (w.heap.size + 2) (w.heap.size + 1) S (.slice none 0 0) w1.drew 128 opc dt f6 opq cas a1 a2 a3 n1 n2 n3 c1 c2 c3 s1 s2 s3 hst1' (HP1.out.arg hg1') (HP2.out.arg hg1') (HP3.out.arg hg1') q1 q2 q3 (by omega) r2 r5 r6 r8 r9
  obtain ⟨b, hb⟩ : ∃ b, w.heap.size = b := ⟨_, rfl⟩
  have h26 := f26_to (b + 2) rb opc dt f6 opq cas a1 a2 a3 n1 n2 n3 c1 c2 c3 w1 (fun v w' => v = .nilIface ∧ ∃ v' l' m', Wst b (b + 2) (b + 1) S v' l' m' w' ∧ WFr b (b + 2) (b + 1) (.slice none 0 0) w1.drew w' v' ∧ l' ++ m' = hdr 128 opc n2 n1 dt f6 (n1 + n2 + n3) opq cas ++ s1 ++ s2 ++ s3) ((hg1.block rb hlt (by simp)).trans HR.out)
    (by rw [← hb]; exact h29.mono fun e w' ⟨he, hx⟩ => ⟨_, he, rfl, hx⟩)
    (by
      rintro v w' ⟨-, v', l', m', -, hf, -⟩
      have hs := hg1.size
      exact hf.block rb (show rb < w1.heap.size by omega) (by omega) (by omega) (by omega) (by simp [Value.ownBlock]))
  rw [hb]
  have HB := hide hb
  have HG1 := hide hg1
  clear hst1 hst1' hg1 hg1' h29 hb
  go_wp2_with fail
  refine h26.mono ?_
  rintro e w2 ⟨v, rfl, rfl, v', l', m', hst2, hf2, hsum⟩
  clear h26
  have hlen : l'.length + m'.length ≤ 1099511627776 := by
    have e1 := congrArg List.length hsum
    simp only [List.length_append, hdr_length, HP1.out.len, HP2.out.len, HP3.out.len] at e1
    omega
  have h17 := f17_to b (b + 2) (b + 1) S v' l' m' w2.drew (hst2.drew 1) hlen
  have HF2 := hide hf2
  have HSUM := hide hsum
  clear hst2 hf2 hsum
  go_wp2_with fail
  go_region_held3 (fun w' => True) (trivial)
    (first
      | (go_at_call 17; refine h17.mono ?_; rintro e w3 ⟨v3, rfl, hb3, hf3⟩; have HB3 := hide hb3; have HF3 := hide hf3; clear hb3 hf3))
  go_wp2
  go_ret2
  refine ⟨v3, rfl, ?_, ?_⟩
  · have := HB3.out
    rw [HSUM.out] at this
    exact this
  · have hb := HB.out
    subst hb
    exact WFr.grown0 HG1.out ((WFr.drew 1).trans (HF2.out.trans ((WFr.drew 1).trans HF3.out)))
end Go.Proofs.Qxb6615679aFmt
