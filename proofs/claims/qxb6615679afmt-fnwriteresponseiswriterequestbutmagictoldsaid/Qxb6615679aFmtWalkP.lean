import Derived.Test.Qxb6615679aFmtWalkO
namespace Go.Proofs.Qxb6615679aFmt
open Go.RowKit Go.Extern.Stop Go.Stop Go.Extern
set_option linter.unusedVariables false
set_option linter.unusedSimpArgs false

set_option maxHeartbeats 2000000 in
set_option maxRecDepth 100000 in
theorem f5_to (F : Interp) (size : Int) (opc f6 opq cas : Nat) (a1 a2 a3 : Option Addr) (n1 n2 n3 c1 c2 c3 : Nat) (s1 s2 s3 : List UInt8) (w : World) (hF : F.answers w.tape) (hin : In w a1 a2 a3 n1 n2 n3 c1 c2 c3 s1 s2 s3) (r2 : opc < 256) (r6 : f6 < 65536) (r8 : opq < 4294967296) (r9 : cas < 18446744073709551616) :
    Calls Tryf.prog 5 #[.int .i64 size, .int .u8 opc, .int .u16 f6, .int .u32 opq, .int .u64 cas, .slice a1 n1 c1, .slice a2 n2 c2, .slice a3 n3 c3] w fun e w' => e = .returned (.bool true) ∧ w.grownBy w' none := by
  have HIN := hide hin
  have HF := hide hF
  have h20 := f20_to size opc f6 opq cas a1 a2 a3 n1 n2 n3 c1 c2 c3 w hin.m1 hin.m2 hin.m3
  clear hin hF
  go_enter Tryf.func5, Tryf.ntmps5
  go_wp2_with fail
  refine h20.mono ?_
  rintro e w0 ⟨r, rfl, hlim, hw0⟩
  obtain rfl : w = w0 := hw0.symm
  clear h20
  cases r
  · go_wp2
    go_ret
    exact ⟨rfl, World.grownBy.refl _ _⟩
  obtain ⟨q1, q2, q3⟩ := hlim rfl
  clear hlim
  by_cases hsz : size ≤ 65536
  · go_wp2_with fail
    obtain ⟨wA, hwA⟩ : ∃ wA, w.alloc (.cells #[.int .u8 opc, .int .u16 f6, .int .u32 opq, .int .u64 cas, .slice a1 n1 c1, .slice a2 n2 c2, .slice a3 n3 c3] 41) = wA := ⟨_, rfl⟩
    rw [hwA]
    have hgA : w.grownBy wA none := hwA ▸ World.grownBy_alloc _ _ _
    have hrA : wA.heap[w.heap.size]? = some (.cells #[.int .u8 opc, .int .u16 f6, .int .u32 opq, .int .u64 cas, .slice a1 n1 c1, .slice a2 n2 c2, .slice a3 n3 c3] 41 (0, 0)) := by rw [← hwA]; unfold World.alloc; exact Array.getElem?_push_size
    obtain ⟨rb, hrb⟩ : ∃ rb, w.heap.size = rb := ⟨_, rfl⟩
    rw [hrb] at hrA ⊢
    have HGA := hide hgA
    have HRA := hide hrA
    have hltA : rb < wA.heap.size := (Array.getElem?_eq_some_iff.1 hrA).1
    have HA1 := hide (HIN.out.p1.grown hgA)
    have HA2 := hide (HIN.out.p2.grown hgA)
    have HA3 := hide (HIN.out.p3.grown hgA)
    clear hgA hrA hrb hwA
    refine (f15_to size wA hsz).mono ?_
    rintro e w1 ⟨S, rfl, hst1, hg1⟩
    obtain ⟨b, hb⟩ : ∃ b, wA.heap.size = b := ⟨_, rfl⟩
    by_cases hok : n1 ≤ 255 ∧ n2 ≤ 250
    · obtain ⟨o1, o2⟩ := hok
      have hst1' : Wst wA.heap.size (wA.heap.size + 2) (wA.heap.size + 1) S (.slice none 0 0) [] [] w1.drew := hst1.drew 1
      have hg1' : wA.grownBy w1.drew none := grownBy_trans_none hg1 (grownBy_drewN w1 1 none)
      have h29 := f29_ok wA.heap.size (wA.heap.size + 2) (wA.heap.size + 1) S (.slice none 0 0) w1.drew 129 opc 0 f6 opq cas a1 a2 a3 n1 n2 n3 c1 c2 c3 s1 s2 s3 hst1' (HA1.out.arg hg1') (HA2.out.arg hg1') (HA3.out.arg hg1') o1 o2 q3 (by omega) r2 (by omega) r6 r8 r9
      have h16 := f16_to (b + 2) rb opc f6 opq cas a1 a2 a3 n1 n2 n3 c1 c2 c3 w1 (fun v w' => v = .nilIface ∧ ∃ v' l' m', Wst b (b + 2) (b + 1) S v' l' m' w' ∧ WFr b (b + 2) (b + 1) (.slice none 0 0) w1.drew w' v' ∧ l' ++ m' = hdr 129 opc n2 n1 0 f6 (n1 + n2 + n3) opq cas ++ s1 ++ s2 ++ s3) ((hg1.block rb hltA (by simp)).trans HRA.out)
        (by rw [← hb]; exact h29.mono fun e w' ⟨he, hx⟩ => ⟨_, he, rfl, hx⟩)
        (by
          rintro v w' ⟨-, v', l', m', -, hf, -⟩
          have hs := hg1.size
          exact hf.block rb (show rb < w1.heap.size by omega) (by omega) (by omega) (by omega) (by simp [Value.ownBlock]))
      rw [hb]
      have HB := hide hb
      have HG1 := hide hg1
      clear hst1 hst1' hg1 hg1' h29 hb
      go_wp2_with fail
      refine h16.mono ?_
      rintro e w2 ⟨v, rfl, rfl, v', l', m', hst2, hf2, hsum⟩
      clear h16
      have hlen : l'.length + m'.length ≤ 1099511627776 := by
        have e1 := congrArg List.length hsum
        simp only [List.length_append, hdr_length, HA1.out.len, HA2.out.len, HA3.out.len] at e1
        omega
      have h17 := f17_to b (b + 2) (b + 1) S v' l' m' w2 hst2 hlen
      have HF2 := hide hf2
      rw [hsum] at h17
      clear hst2 hf2 hsum hlen
      go_wp2_with fail
      refine h17.mono ?_
      rintro e w3 ⟨v3, rfl, hb3, hf3⟩
      have hg3 : wA.grownBy w3 none := by
        have hb := HB.out
        subst hb
        exact WFr.grown0 HG1.out ((WFr.drew 1).trans (HF2.out.trans hf3))
      have HG3 := hide hg3
      have HB3 := hide hb3
      clear hb3 hf3 hg3 h17
      go_wp2_with fail
      obtain ⟨w4, hw4⟩ : ∃ w4, w3.alloc (.cells #[.int .u8 opc, .int .u8 0, .int .u16 f6, .int .u32 opq, .int .u64 cas, .slice a1 n1 c1, .slice a2 n2 c2, .slice a3 n3 c3, .bool false] 30) = w4 := ⟨_, rfl⟩
      rw [hw4]
      have hg4 : w3.grownBy w4 none := hw4 ▸ World.grownBy_alloc _ _ _
      have hr4 : w4.heap[w3.heap.size]? = some (.cells #[.int .u8 opc, .int .u8 (0 : Nat), .int .u16 f6, .int .u32 opq, .int .u64 cas, .slice a1 n1 c1, .slice a2 n2 c2, .slice a3 n3 c3, .bool false] 30 (0, 0)) := by rw [← hw4]; unfold World.alloc; exact Array.getElem?_push_size
      have hgA4 := grownBy_trans_none HG3.out hg4
      have h10 := f10_ok size w3.heap.size opc 0 f6 opq cas a1 a2 a3 n1 n2 n3 c1 c2 c3 s1 s2 s3 w4 hsz hr4 (HA1.out.grown hgA4) (HA2.out.grown hgA4) (HA3.out.grown hgA4) o1 o2 q3 r2 (by omega) r6 r8 r9
      have HG4 := hide hg4
      clear hg4 hr4 hgA4 hw4
      refine h10.mono ?_
      rintro e w5 ⟨v5, rfl, hb5, hg5⟩
      clear h10
      have hb3 := HB3.out.grown (grownBy_trans_none HG4.out hg5)
      obtain ⟨T, hT⟩ : ∃ T, Lib.beBytes 2 n2 ++ [UInt8.ofNat n1] ++ [UInt8.ofNat 0] ++ Lib.beBytes 2 f6 ++ Lib.beBytes 4 (n1 + n2 + n3) ++ Lib.beBytes 4 opq ++ Lib.beBytes 8 cas ++ s1 ++ s2 ++ s3 = T := ⟨_, rfl⟩
      have eq3 : hdr 129 opc n2 n1 0 f6 (n1 + n2 + n3) opq cas ++ s1 ++ s2 ++ s3 = (129 : UInt8) :: (UInt8.ofNat opc :: T) := by rw [← hT]; simp [hdr]
      have eq5 : hdr 128 opc n2 n1 0 f6 (n1 + n2 + n3) opq cas ++ s1 ++ s2 ++ s3 = (128 : UInt8) :: (UInt8.ofNat opc :: T) := by rw [← hT]; simp [hdr]
      obtain ⟨T', hT'⟩ : ∃ T', UInt8.ofNat opc :: T = T' := ⟨_, rfl⟩
      rw [eq3, hT'] at hb3
      rw [eq5, hT'] at hb5
      have hTl : T'.length = 23 + n1 + n2 + n3 := by
        have e1 := congrArg List.length eq3
        simp only [List.length_append, hdr_length, HA1.out.len, HA2.out.len, HA3.out.len] at e1
        rw [hT', List.length_cons] at e1
        omega
      obtain ⟨g3, d3, rfl, hd3, hs3⟩ := hb3.opened (by simp)
      obtain ⟨g5, d5, rfl, hd5, hs5⟩ := hb5.opened (by simp)
      simp only [List.length_cons, hTl] at hd3 hd5 ⊢
      obtain ⟨N, hN⟩ : ∃ N, 23 + n1 + n2 + n3 = N := ⟨_, rfl⟩
      simp only [hN] at hd3 hd5 hTl ⊢
      obtain ⟨L, hL⟩ : ∃ L, N + 1 = L := ⟨_, rfl⟩
      simp only [hL] at hd3 hd5 ⊢
      have HL := hide hL
      have HS3 := hide hs3
      have HS5 := hide hs5
      have HTL := hide hTl
      have hNI : (n1 : Int) + (n2 : Int) + (n3 : Int) + 24 = (L : Int) := by omega
      have hLI : (24 : Int) + ((n1 : Int) + (n2 : Int) + (n3 : Int)) = (L : Int) := by omega
      have HN := hide hN
      have HG5 := hide (grownBy_trans_none HGA.out (grownBy_trans_none HG3.out (grownBy_trans_none HG4.out hg5)))
      clear hL hs3 hs5 hTl hN hg5 hb3 hb5 hT hT' eq3 eq5
      go_wp2_with fail
      refine (f11_to a1 a2 a3 n1 n2 n3 c1 c2 c3 w5 q1 q2 q3).mono ?_
      rintro e w6 ⟨r, rfl, hr, hw6⟩
      obtain rfl : w5 = w6 := hw6.symm
      obtain rfl : r = true := hr.2 ⟨o1, o2⟩
      clear hr
      have k3 : w5.cell? ⟨g3, 0, none⟩ = some (.int .u8 129) := by have := HS3.out.cell 0 (by simp); rw [Addr.add_lit] at this; exact this
      have k5 : w5.cell? ⟨g5, 0, none⟩ = some (.int .u8 128) := by have := HS5.out.cell 0 (by simp); rw [Addr.add_lit] at this; exact this
      have sl3 : ∀ w, (Instr.slice 25 (.slice (some ⟨g3, 0, none⟩) L d3) (some (.int .i64 1)) none none).run Tryf.prog w = .ok (.slice (some ⟨g3, 1, none⟩) N (d3 - 1)) w := fun w => by
        have hl := HL.out
        have := slice25o g3 0 L d3 1 (by omega) (by omega) w
        rw [show L - 1 = N by omega] at this
        simpa using this
      have sl5 : ∀ w, (Instr.slice 25 (.slice (some ⟨g5, 0, none⟩) L d5) (some (.int .i64 1)) none none).run Tryf.prog w = .ok (.slice (some ⟨g5, 1, none⟩) N (d5 - 1)) w := fun w => by
        have hl := HL.out
        have := slice25o g5 0 L d5 1 (by omega) (by omega) w
        rw [show L - 1 = N by omega] at this
        simpa using this
      have hNb : N ≤ 1099511627776 := by have := HN.out; omega
      have hN1 : (0 : Int) < (L : Int) := by have := HL.out; omega
      have hN2 : 0 < L := by omega
      go_wp2_with fail
      · have h21 : ∀ j, Calls Tryf.prog 21 #[.slice (some ⟨g3, 1, none⟩) N (d3 - 1), .slice (some ⟨g5, 1, none⟩) N (d5 - 1)] (w5.drewN j) fun e w' => e = .returned (.bool true) ∧ ∃ k, w' = (w5.drewN j).drewN k := fun j => f21_to g3 1 g5 1 N (d3 - 1) (d5 - 1) T' (w5.drewN j) HTL.out hNb ⟨HS3.out.tail.cell⟩ ⟨HS5.out.tail.cell⟩
        have h22 : Calls Tryf.prog 21 #[.slice (some ⟨g3, 1, none⟩) N (d3 - 1), .slice (some ⟨g5, 1, none⟩) N (d5 - 1)] w5.drew fun e w' => e = .returned (.bool true) ∧ ∃ k, w' = w5.drew.drewN k := h21 1
        have HS0 : Hid (w5.drew.cell? ⟨g3, 0, none⟩ = some (.int .u8 129) ∧ w5.drew.cell? ⟨g5, 0, none⟩ = some (.int .u8 128)) := ⟨k3, k5⟩
        go_region_held3 (fun w' => w'.cell? ⟨g3, 0, none⟩ = some (.int .u8 129) ∧ w'.cell? ⟨g5, 0, none⟩ = some (.int .u8 128))
          (with_reducible (first | exact HS0.out | exact HS1.out))
          (first
            | (go_at_call 21; refine h22.mono ?_; rintro e w7 ⟨rfl, j, hw7⟩; have HS1 : Hid (w7.cell? ⟨g3, 0, none⟩ = some (.int .u8 129) ∧ w7.cell? ⟨g5, 0, none⟩ = some (.int .u8 128)) := hw7 ▸ ⟨k3, k5⟩; have HW7 := hide hw7; clear hw7))
        go_wp2
        go_ret
        exact ⟨rfl, grownBy_trans_none HG5.out (by rw [HW7.out]; exact grownBy_trans_none (grownBy_drewN w5 1 none) (grownBy_drewN w5.drew j none))⟩
    · have h29 := f29_no F (wA.heap.size + 2) w1.drew 129 opc 0 f6 opq cas a1 a2 a3 n1 n2 n3 c1 c2 c3 (by rw [show w1.drew.tape = w.tape from hg1.tape.trans HGA.out.tape]; exact HF.out) q1 q2 q3 hok
      have h16 := f16_to (b + 2) rb opc f6 opq cas a1 a2 a3 n1 n2 n3 c1 c2 c3 w1 (fun v w' => (∃ p, v = .iface 121 p) ∧ w1.drew.grownBy w' none) ((hg1.block rb hltA (by simp)).trans HRA.out)
        (by rw [← hb]; exact h29.mono fun e w' ⟨⟨p, he⟩, hx⟩ => ⟨_, he, ⟨p, rfl⟩, hx⟩)
        (by
          rintro v w' ⟨-, hg⟩
          have hs := hg1.size
          exact hg.block rb (show rb < w1.heap.size by omega) (by simp))
      rw [hb] at hst1 ⊢
      have HOK := hide hok
      have HB := hide hb
      have HG1 := hide hg1
      have HST1 := hide hst1
      clear hst1 hg1 h29 hb hok
      go_wp2_with fail
      refine h16.mono ?_
      rintro e w2 ⟨v, rfl, ⟨p, rfl⟩, hg2⟩
      clear h16
      have hg2' : w1.grownBy w2 none := grownBy_trans_none (grownBy_drewN w1 1 none) hg2
      obtain ⟨hst2, hf2⟩ := HST1.out.grown hg2'
      have h17 := f17_to b (b + 2) (b + 1) S _ [] [] w2 hst2 (by simp)
      have HF2 := hide hf2
      clear hst2 hf2 hg2 hg2'
      go_wp2_with fail
      refine h17.mono ?_
      rintro e w3 ⟨v3, rfl, hb3, hf3⟩
      have hg3 : wA.grownBy w3 none := by
        have hb := HB.out
        subst hb
        exact WFr.grown0 HG1.out (HF2.out.trans hf3)
      have HG3 := hide hg3
      obtain ⟨x3, y3, rfl⟩ := Buf.empty hb3
      clear hb3 hf3 hg3 h17
      go_wp2_with fail
      obtain ⟨w4, hw4⟩ : ∃ w4, w3.alloc (.cells #[.int .u8 opc, .int .u8 0, .int .u16 f6, .int .u32 opq, .int .u64 cas, .slice a1 n1 c1, .slice a2 n2 c2, .slice a3 n3 c3, .bool false] 30) = w4 := ⟨_, rfl⟩
      rw [hw4]
      have hg4 : w3.grownBy w4 none := hw4 ▸ World.grownBy_alloc _ _ _
      have hr4 : w4.heap[w3.heap.size]? = some (.cells #[.int .u8 opc, .int .u8 (0 : Nat), .int .u16 f6, .int .u32 opq, .int .u64 cas, .slice a1 n1 c1, .slice a2 n2 c2, .slice a3 n3 c3, .bool false] 30 (0, 0)) := by rw [← hw4]; unfold World.alloc; exact Array.getElem?_push_size
      have h10 := f10_no F size w3.heap.size opc 0 f6 opq cas a1 a2 a3 n1 n2 n3 c1 c2 c3 w4 (by rw [hg4.tape, HG3.out.tape, HGA.out.tape]; exact HF.out) hsz hr4 q1 q2 q3 HOK.out
      have HG4 := hide hg4
      clear hg4 hr4 hw4
      refine h10.mono ?_
      rintro e w5 ⟨v5, rfl, hb5, hg5⟩
      clear h10
      obtain ⟨x5, y5, rfl⟩ := Buf.empty hb5
      have HG5 := hide (grownBy_trans_none HGA.out (grownBy_trans_none HG3.out (grownBy_trans_none HG4.out hg5)))
      clear hb5 hg5
      go_wp2_with fail
      refine (f11_to a1 a2 a3 n1 n2 n3 c1 c2 c3 w5 q1 q2 q3).mono ?_
      rintro e w6 ⟨r, rfl, hr, hw6⟩
      obtain rfl : w5 = w6 := hw6.symm
      obtain rfl : r = false := by
        cases r with
        | false => rfl
        | true => exact absurd (hr.1 rfl) HOK.out
      clear hr
      go_wp2
      go_ret
      exact ⟨rfl, HG5.out⟩
  · have hsz' : (65536 : Int) < size := by omega
    go_wp2
    go_ret
    exact ⟨rfl, World.grownBy.refl _ _⟩
end Go.Proofs.Qxb6615679aFmt
