import Derived.Test.Qxb6615679aFmtWalkN
namespace Go.Proofs.Qxb6615679aFmt
open Go.RowKit Go.Extern.Stop Go.Stop Go.Extern
set_option linter.unusedVariables false
set_option linter.unusedSimpArgs false

set_option maxHeartbeats 4000000 in
set_option maxRecDepth 100000 in
/-- zzWriteRequest beyond the limits. -/
theorem f10_no (F : Interp) (size : Int) (rb opc dt f6 opq cas : Nat) (a1 a2 a3 : Option Addr) (n1 n2 n3 c1 c2 c3 : Nat) (w : World) (hF : F.answers w.tape) (hsz : size ≤ 65536) (hr : w.heap[rb]? = some (.cells #[.int .u8 opc, .int .u8 dt, .int .u16 f6, .int .u32 opq, .int .u64 cas, .slice a1 n1 c1, .slice a2 n2 c2, .slice a3 n3 c3, .bool false] 30 (0, 0)))
    (q1 : n1 ≤ 1048576) (q2 : n2 ≤ 1048576) (q3 : n3 ≤ 1048576) (hno : ¬ (n1 ≤ 255 ∧ n2 ≤ 250)) :
    Calls Tryf.prog 10 #[.int .i64 size, .pointer (some ⟨rb, 0, none⟩)] w fun e w' => ∃ v, e = .returned (.tuple #[v, .bool true]) ∧ Buf w' v [] ∧ w.grownBy w' none := by
  have hlt : rb < w.heap.size := (Array.getElem?_eq_some_iff.1 hr).1
  have HR := hide hr
  have HNO := hide hno
  have HF := hide hF
  clear hr hno hF
  go_enter Tryf.func10, Tryf.ntmps10
  go_wp2_with fail
  refine (f15_to size w hsz).mono ?_
  rintro e w1 ⟨S, rfl, hst1, hg1⟩
  have h29 := f29_no F (w.heap.size + 2) w1.drew 128 opc dt f6 opq cas a1 a2 a3 n1 n2 n3 c1 c2 c3 (by rw [show w1.drew.tape = w.tape from hg1.tape]; exact HF.out) q1 q2 q3 HNO.out
  obtain ⟨b, hb⟩ : ∃ b, w.heap.size = b := ⟨_, rfl⟩
  have h26 := f26_to (b + 2) rb opc dt f6 opq cas a1 a2 a3 n1 n2 n3 c1 c2 c3 w1 (fun v w' => (∃ p, v = .iface 121 p) ∧ w1.drew.grownBy w' none) ((hg1.block rb hlt (by simp)).trans HR.out)
    (by rw [← hb]; exact h29.mono fun e w' ⟨⟨p, he⟩, hx⟩ => ⟨_, he, ⟨p, rfl⟩, hx⟩)
    (by
      rintro v w' ⟨-, hg⟩
      have hs := hg1.size
      exact hg.block rb (show rb < w1.heap.size by omega) (by simp))
  rw [hb] at hst1 ⊢
  have HB := hide hb
  have HG1 := hide hg1
  have HST1 := hide hst1
  clear hst1 hg1 h29 hb
  go_wp2_with fail
  refine h26.mono ?_
  rintro e w2 ⟨v, rfl, ⟨p, rfl⟩, hg2⟩
  clear h26
  have hg2' : w1.grownBy w2 none := grownBy_trans_none (grownBy_drewN w1 1 none) hg2
  obtain ⟨hst2, hf2⟩ := HST1.out.grown hg2'
  have h17 := f17_to b (b + 2) (b + 1) S _ [] [] w2.drew (hst2.drew 1) (by simp)
  have HF2 := hide hf2
  clear hst2 hf2 hg2 hg2'
  go_wp2_with fail
  go_region_held3 (fun w' => True) (trivial)
    (first
      | (go_at_call 17; refine h17.mono ?_; rintro e w3 ⟨v3, rfl, hb3, hf3⟩; have HB3 := hide hb3; have HF3 := hide hf3; clear hb3 hf3))
  go_wp2
  go_ret2
  refine ⟨v3, rfl, HB3.out, ?_⟩
  have hb := HB.out
  subst hb
  exact WFr.grown0 HG1.out (HF2.out.trans ((WFr.drew 1).trans HF3.out))

/-- What the law is asked, but for the limits. -/
structure In (w : World) (a1 a2 a3 : Option Addr) (n1 n2 n3 c1 c2 c3 : Nat) (s1 s2 s3 : List UInt8) : Prop where
  p1 : Raw w a1 n1 c1 s1
  p2 : Raw w a2 n2 c2 s2
  p3 : Raw w a3 n3 c3 s3
  m1 : n1 ≤ maxLen
  m2 : n2 ≤ maxLen
  m3 : n3 ≤ maxLen

theorem Buf.opened {w : World} {v : Value} {l : List UInt8} (h : Buf w v l) (hl : 0 < l.length) : ∃ g c, v = .slice (some ⟨g, 0, none⟩) l.length c ∧ l.length ≤ c ∧ SrcA w ⟨g, 0, none⟩ l := by
  have h' := h
  obtain ⟨h1, ⟨rfl, h0⟩ | ⟨g, cap, cur, rfl, h2, h3, h4, h5, h6, h7⟩⟩ := h
  · omega
  · exact ⟨g, cap, rfl, h4, Buf.srcA h'⟩
theorem Buf.empty {w : World} {v : Value} (h : Buf w v []) : ∃ a c, v = .slice a 0 c := by
  obtain ⟨h1, ⟨rfl, h0⟩ | ⟨g, cap, cur, rfl, h2⟩⟩ := h
  · exact ⟨none, 0, rfl⟩
  · exact ⟨_, _, rfl⟩
theorem SrcA.tail {w : World} {g : Nat} {x : UInt8} {l : List UInt8} (h : SrcA w ⟨g, 0, none⟩ (x :: l)) : SrcA w ⟨g, 1, none⟩ l := by
  refine ⟨fun j hj => ?_⟩
  have := h.cell (j + 1) (by simp; omega)
  rw [Addr.add_lit, Nat.zero_add] at this
  rw [Addr.add_lit, show 1 + j = j + 1 from by omega, this]
  simp [List.getD]

end Go.Proofs.Qxb6615679aFmt
