import Derived.Test.Qxb6614913aWalkO
namespace Go.Proofs.Qxb6614913a
open Go.RowKit
set_option linter.unusedVariables false
set_option linter.unusedSimpArgs false

theorem SliB.grown {w w' : World} {da : Option Addr} {dn dc : Nat} {s : List UInt8} (h : SliB w da dn dc s) (hg : w.grownBy w' none) : SliB w' da dn dc s := h.same (Same.grown hg (Nat.le_refl _))
theorem BatAt.grown {B : Nat} {w w' : World} {g o : Nat} {Es : List EntD} (h : BatAt B w g o Es) (hg : w.grownBy w' none) (hB : B ≤ w.heap.size) : BatAt B w' g o Es := h.same (Same.grown hg hB)
theorem BatAt.nil {B : Nat} {w : World} {g o : Nat} {Es : List EntD} (h : BatAt B w g o Es) (o' : Nat) : BatAt B w g o' [] := ⟨h.1, fun i hi => absurd hi (by simp)⟩

theorem BatAt.dropO {B : Nat} {w : World} {g : Nat} {Es : List EntD} (h : BatAt B w g 0 Es) (k : Nat) {o : Nat} (ho : (if Es.length = k then 0 else k * 8) = o) : BatAt B w g o (Es.drop k) := by
  by_cases e : Es.length = k
  · rw [List.drop_of_length_le (by omega)]
    exact h.nil o
  · rw [if_neg e] at ho
    exact ho ▸ h.drop k
theorem sizeOf41 (w : World) : (sizeOf 41).run Try.prog w = .ok 8 w := by
  obtain ⟨i, hi, hzz⟩ := Option.map_eq_some_iff.1 Try.info41
  simp only [Prod.mk.injEq] at hzz
  simp [sizeOf]
  kernel_rfl
theorem slice28 (g n k o : Nat) (hk : k ≤ n) (ho : (if n = k then 0 else k * 8) = o) (w : World) :
    (Instr.slice 28 (.slice (some ⟨g, 0, none⟩) n n) (some (.int .i64 k)) none none).run Try.prog w = .ok (.slice (some ⟨g, o, none⟩) (n - k) (n - k)) w := by
  have ht : Try.prog.underlying 28 = some (.slice (Try.prog.elem 28)) := by kernel_rfl
  have he : Try.prog.elem 28 = 41 := by kernel_rfl
  rw [run_slice_l (ht := ht) (h0 := by omega) (h1 := by omega), he, sizeOf41]
  simp only [Result.andThen, sliced, Int.toNat_natCast]
  by_cases e : n = k
  · rw [if_pos e] at ho ⊢; rw [← ho]
  · rw [if_neg e] at ho ⊢; rw [← ho]; simp [Addr.add]; omega

theorem f9_to (x : Int) (r : Nat) (w : World) (h0 : 0 ≤ x) (h1 : x < 18446744073709551616) (hr : (uv x).length = r) : Calls Try.prog 9 #[.int .u64 x] w fun e w' => e = .returned (.int .i64 r) ∧ w' = w := by
  obtain ⟨y, rfl⟩ := Int.eq_ofNat_of_zero_le h0
  have := f9_any y w (by omega)
  unfold uv at hr
  rw [Int.toNat_natCast] at hr
  rw [hr] at this
  exact this

set_option maxRecDepth 100000 in
set_option maxHeartbeats 16000000 in
theorem f3_core (ba : Option Addr) (bn bc : Nat) (s : List UInt8) (view nn inst : Int) (a : Option Addr) (n c : Nat) (kk : Int) (Es : List EntD) (W : World) (G : Prop)
    (hsl : SliB W ba bn bc s) (hbn : s.length = bn)
    (a0 : 0 ≤ view) (a1 : view < 18446744073709551616) (b0 : 0 ≤ nn) (b1 : nn < 18446744073709551616) (c0 : 0 ≤ inst) (c1 : inst < 18446744073709551616) (hEs : Es.length = n)
    (h4 : Calls Try.prog 4 #[.slice ba bn bc, .int .u64 view, .int .u64 nn, .int .u64 inst, .slice a n c, .int .i64 kk] W fun e w' => ∃ r, e = .returned (.bool r) ∧ w' = W)
    (h5 : Calls Try.prog 5 #[.slice ba bn bc, .slice a n c] W fun e w' => ∃ r, e = .returned (.bool r) ∧ W.grownBy w' none ∧ (r = true → G))
    (hG1 : G → bn + 128 * n ≤ 1048576) (hG2 : G → ∀ E ∈ Es, E.ok)
    (h7 : G → ∀ w, W.grownBy w none → Calls Try.prog 7 #[.slice a n c] w fun e w' => ∃ g, e = .returned (.slice (some ⟨g, 0, none⟩) n n) ∧ w.grownBy w' none ∧ BatAt w'.heap.size w' g 0 Es) :
    Calls Try.prog 3 #[.slice ba bn bc, .int .u64 view, .int .u64 nn, .int .u64 inst, .slice a n c, .int .i64 kk] W fun e w' => e = .returned (.bool true) ∧ W.grownBy w' none := by
  have HSL := hide hsl
  have H7 := hide h7
  have HG1 := hide hG1
  have HG2 := hide hG2
  have HES := hide hEs
  clear hsl h7 hG1 hG2 hEs
  go_enter Try.func3, Try.ntmps3
  go_wp2_with (go_at_call 4; refine h4.mono ?_; rintro e w ⟨r4, rfl, hw⟩; obtain rfl : W = w := hw.symm; cases r4)
  · go_ret; exact ⟨rfl, World.grownBy.refl _ _⟩
  refine h5.mono ?_
  rintro e w1 ⟨r5, rfl, hg1, hG⟩
  clear h4 h5
  cases r5
  · go_wp2
    go_ret
    exact ⟨rfl, hg1⟩
  have HG := hide (hG rfl)
  have HW1 := hide hg1
  clear hG hg1
  by_cases hk0 : kk < 0
  · go_wp2
    go_ret
    exact ⟨rfl, HW1.out⟩
  by_cases hk1 : (n : Int) < kk
  · go_wp2
    go_ret
    exact ⟨rfl, HW1.out⟩
  obtain ⟨k, rfl⟩ := Int.eq_ofNat_of_zero_le (show 0 ≤ kk by omega)
  have hkn : k ≤ n := by omega
  have hlim := HG1.out HG.out
  go_wp2_with fail
  refine (f6_buf _ _ _ s w1 (HSL.out.grown HW1.out) (by omega)).mono ?_
  rintro e w2 ⟨da2, dc2, rfl, hg2, hb2, hab2, hs2⟩
  have HB2 := hide hb2
  have HW2 := hide (grownBy_trans_none HW1.out hg2)
  clear hg2 hb2 hab2 hs2
  go_wp2_with fail
  refine (f6_buf _ _ _ s w2 (HSL.out.grown HW2.out) (by omega)).mono ?_
  rintro e w3 ⟨da3, dc3, rfl, hg3, hb3, hab3, hs3⟩
  have HS3 := hide hs3
  have HB2' := hide (HB2.out.grown hg3)
  have HW3 := hide (grownBy_trans_none HW2.out hg3)
  clear hg3 hb3 hab3 hs3 HB2
  go_wp2_with fail
  refine (H7.out HG.out w3 HW3.out).mono ?_
  rintro e w4 ⟨g, rfl, hg4, hbat⟩
  have HS4 := hide (HS3.out.grown hg4)
  have HB4 := hide (HB2'.out.grown hg4)
  have HW4 := hide (grownBy_trans_none HW3.out hg4)
  have HBAT := hide hbat
  clear hg4 hbat HS3 HB2' HW1 HW2 HW3
  go_wp2_with fail
  obtain ⟨q, hq⟩ : ∃ q, body s view nn inst Es = q := ⟨_, rfl⟩
  obtain ⟨qx, hqx⟩ : ∃ q, body s view nn inst (Es.take k) = q := ⟨_, rfl⟩
  obtain ⟨qy, hqy⟩ : ∃ q, body s view nn inst (Es.drop k) = q := ⟨_, rfl⟩
  have hbod := bodies s view nn inst Es k (by have := HES.out; omega)
  rw [hq, hqx, hqy] at hbod
  have hell := encL_len Es (HG2.out HG.out)
  have hellx : (encL (Es.take k)).length ≤ (encL Es).length := encL_mono Es k
  have helly : (encL (Es.drop k)).length ≤ (encL Es).length := by rw [encL_split Es k, List.length_append]; omega
  rw [HES.out] at hell
  have HL1 := hide (show s.length + (encL Es).length + 60000000 ≤ 1099511627776 by omega)
  have HL2 := hide (show s.length + (encL (Es.take k)).length + 60000000 ≤ 1099511627776 by omega)
  have HL3 := hide (show s.length + (encL (Es.drop k)).length + 60000000 ≤ 1099511627776 by omega)
  have HQ := hide hq
  have HQX := hide hqx
  have HQY := hide hqy
  have HBOD := hide hbod
  clear hq hqx hqy hbod hell hellx helly
  refine (f6_buf _ _ _ s w4 HS4.out (by omega)).mono ?_
  rintro e w5 ⟨da5, dc5, rfl, hg5, hb5, hab5, hs5⟩
  have HB5 := hide hb5
  have HA5 := hide hab5
  have HG5 := hide hg5
  clear hg5 hb5 hab5 hs5
  go_wp2_with fail
  refine (f8_to _ s w4.heap.size g _ _ _ _ _ _ Es w5 q HES.out HB5.out HA5.out HG5.out.size (HBAT.out.grown HG5.out (Nat.le_refl _)) (HG2.out HG.out) (by omega) HL1.out a0 a1 b0 b1 c0 c1 HQ.out).mono ?_
  rintro e w6 ⟨v6, rfl, hb6, hf6⟩
  have HG6 := hide (grown_fr HG5.out hf6 HA5.out)
  have HB6 := hide hb6
  clear hb6 hf6 HB5 HA5 HG5
  have hk2 : (0 : Int) ≤ (k : Int) := Int.natCast_nonneg _
  have hk3 : (k : Int) ≤ (n : Int) := by omega
  have HS6 := hide (HS4.out.grown (grownBy_trans_none HG6.out (grownBy_drewN w6 1 none)))
  go_wp2_with fail
  go_region_held3 (fun w' => True) (trivial)
    (first
      | (go_at_call 6; refine (f6_buf _ _ _ s w6.drew HS6.out (by omega)).mono ?_; rintro e w7 ⟨da7, dc7, rfl, hg7, hb7, hab7, hs7⟩; have HB7 := hide hb7; have HA7 := hide hab7; have HG7 := hide (grownBy_trans_none (grownBy_drewN w6 1 none) hg7); clear hb7 hab7 hg7 hs7)
      | (go_at_call 8; refine (f8_to _ s w4.heap.size g _ _ _ _ _ _ (Es.take k) w7 qx (by rw [List.length_take, HES.out]; omega) HB7.out (HA7.out.mono HG6.out.size) (Nat.le_trans HG6.out.size HG7.out.size) ((HBAT.out.take k).grown (grownBy_trans_none HG6.out HG7.out) (Nat.le_refl _)) (fun E hE => HG2.out HG.out E (List.mem_of_mem_take hE)) (by omega) HL2.out a0 a1 b0 b1 c0 c1 HQX.out).mono ?_; rintro e w8 ⟨v8, rfl, hb8, hf8⟩; have HB8 := hide hb8; have HG8 := hide (grown_fr HG7.out hf8 HA7.out); clear hb8 hf8))
  have HG8' := hide (grownBy_trans_none HG6.out HG8.out)
  have HB6' := hide (HB6.out.grown HG8.out)
  have HS8 := hide (HS4.out.grown (grownBy_trans_none HG8'.out (grownBy_drewN w8 1 none)))
  clear HG6 HG7 HG8 HB6 HS6 HA7 HB7
  obtain ⟨o, ho⟩ : ∃ o, (if n = k then 0 else k * 8) = o := ⟨_, rfl⟩
  have hsli := slice28 g n k o hkn ho
  have HO := hide ho
  clear ho hk2 hk3
  go_wp2_with fail
  go_region_held3 (fun w' => True) (trivial)
    (first
      | (go_at_call 6; refine (f6_buf _ _ _ s w8.drew HS8.out (by omega)).mono ?_; rintro e w9 ⟨da9, dc9, rfl, hg9, hb9, hab9, hs9⟩; have HB9 := hide hb9; have HA9 := hide hab9; have HG9 := hide (grownBy_trans_none (grownBy_drewN w8 1 none) hg9); clear hb9 hab9 hg9 hs9)
      | (go_at_call 8; refine (f8_to _ s w4.heap.size g _ _ _ _ _ _ (Es.drop k) w9 qy (by rw [List.length_drop, HES.out]) HB9.out (HA9.out.mono HG8'.out.size) (Nat.le_trans HG8'.out.size HG9.out.size) ((HBAT.out.dropO k (by rw [HES.out]; exact HO.out)).grown (grownBy_trans_none HG8'.out HG9.out) (Nat.le_refl _)) (fun E hE => HG2.out HG.out E (List.mem_of_mem_drop hE)) (by omega) HL3.out a0 a1 b0 b1 c0 c1 HQY.out).mono ?_; rintro e w10 ⟨v10, rfl, hb10, hf10⟩; have HB10 := hide hb10; have HG10 := hide (grown_fr HG9.out hf10 HA9.out); clear hb10 hf10))
  have HW := hide (grownBy_trans_none HW4.out (grownBy_trans_none HG8'.out HG10.out))
  have hbw := (HB4.out.grown (grownBy_trans_none HG8'.out HG10.out))
  have hb6 := HB6'.out.grown HG10.out
  have hb8 := HB8.out.grown HG10.out
  have hb10 := HB10.out
  obtain ⟨m, hm⟩ : ∃ m, n - k = m := ⟨_, rfl⟩
  obtain ⟨hh, k1, k2, k3, ex, ey, hbod⟩ : ∃ hh k1 k2 k3 ex ey, Bodies s q qx qy view nn inst n k m hh k1 k2 k3 ex ey := ⟨_, _, _, _, _, _, hm ▸ HES.out ▸ HBOD.out⟩
  have lq := hbod.lq
  have lx := hbod.lx
  have ly := hbod.ly
  have leh := hbod.eh
  have p1 := uv_len view a1
  have p2 := uv_len nn b1
  have p3 := uv_len inst c1
  have hexl : ex + ey + 60000000 ≤ 1099511627776 := by have h1 := hbod.lq; have h2 := HL1.out; have h3 := HQ.out; rw [← h3] at h1; unfold body at h1; simp only [List.length_append, List.length_cons, List.length_nil] at h1; have h4 := hbod.e1; rw [HES.out] at h1; omega
  obtain ⟨g1, c1', rfl, hc1⟩ := hb6.opened (by omega)
  obtain ⟨g2, c2', rfl, hc2⟩ := hb8.opened (by omega)
  obtain ⟨g3, c3', rfl, hc3⟩ := hb10.opened (by omega)
  have HC1 := hide hc1
  have HC2 := hide hc2
  have HC3 := hide hc3
  have HBW := hide hbw
  have HBO := hide hbod
  have q1 := uv_len (n : Int) (by omega)
  have q2 := uv_len (k : Int) (by omega)
  have q3 := uv_len (m : Int) (by omega)
  have e1 := hbod.e1
  have e2 := hbod.e2
  have e3 := hbod.e3
  rw [← e1] at q1
  rw [← e2] at q2
  rw [← e3] at q3
  generalize hl1 : (uv view).length = l1 at p1 leh
  generalize hl2 : (uv nn).length = l2 at p2 leh
  generalize hl3 : (uv inst).length = l3 at p3 leh
  have E1 := hide e1
  have E2 := hide e2
  have E3 := hide e3
  have HL1' := hide hl1
  have HL2' := hide hl2
  have HL3' := hide hl3
  clear hb6 hb8 hb10 hbw hbod hc1 hc2 hc3 e1 e2 e3 hl1 hl2 hl3 HG8' HG10 HB6' HB8 HB10 HL1 HL2 HL3 HQ HQX HQY HBOD HB4 HS4 HS8 HW4 HBAT HB9 HA9 HG9 H7 HG1 HG2 HO
  generalize hlq : q.length = n1 at lq ⊢
  generalize hlx : qx.length = n2 at lx ⊢
  generalize hly : qy.length = n3 at ly ⊢
  have HLQ := hide hlq
  have HLX := hide hlx
  have HLY := hide hly
  clear hlq hlx hly
  clear hsli
  have hmI : (n : Int) - (k : Int) = (m : Int) := by omega
  have hhI : (bn : Int) + 1 + (l1 : Int) + (l2 : Int) + (l3 : Int) = (hh : Int) := by omega
  have bb1 : bn ≤ 1048576 := by omega
  have bb2 : hh ≤ 1048700 := by omega
  have bb3 : n ≤ 8192 := by omega
  have bb4 : m ≤ 8192 := by omega
  have bb5 : n1 ≤ 1099511627776 := by omega
  have bb6 : n2 ≤ 1099511627776 := by omega
  have bb7 : n3 ≤ 1099511627776 := by omega
  have bb8 : hh + k1 ≤ n1 := by omega
  have bb9 : hh + k2 ≤ n2 := by omega
  have bb10 : hh + k3 ≤ n3 := by omega
  have LQ := hide lq
  have LX := hide lx
  have LY := hide ly
  have LEH := hide leh
  have HM := hide hm
  have HBN := hide hbn
  clear lq lx ly leh hm hbn
  go_wp2_with fail
  refine (f9_to view l1 w10 a0 a1 HL1'.out).mono ?_
  rintro e w ⟨rfl, hw⟩
  obtain rfl : w10 = w := hw.symm
  go_wp2_with fail
  refine (f9_to nn l2 w10 b0 b1 HL2'.out).mono ?_
  rintro e w ⟨rfl, hw⟩
  obtain rfl : w10 = w := hw.symm
  go_wp2_with fail
  refine (f9_to inst l3 w10 c0 c1 HL3'.out).mono ?_
  rintro e w ⟨rfl, hw⟩
  obtain rfl : w10 = w := hw.symm
  go_wp2_with fail
  refine (f9_to n k1 w10 (by omega) (by omega) E1.out.symm).mono ?_
  rintro e w ⟨rfl, hw⟩
  obtain rfl : w10 = w := hw.symm
  go_wp2_with fail
  refine (f9_to k k2 w10 (by omega) (by omega) E2.out.symm).mono ?_
  rintro e w ⟨rfl, hw⟩
  obtain rfl : w10 = w := hw.symm
  go_wp2_with fail
  refine (f9_to m k3 w10 (by omega) (by omega) E3.out.symm).mono ?_
  rintro e w ⟨rfl, hw⟩
  obtain rfl : w10 = w := hw.symm
  have t1 : ¬ ((n1 : Int) < (hh : Int) + (k1 : Int)) := by omega
  have t2 : ¬ ((n2 : Int) < (hh : Int) + (k2 : Int)) := by omega
  have t3 : ¬ ((n3 : Int) < (hh : Int) + (k3 : Int)) := by omega
  go_wp2_with fail
  go_loopw [22] (fun s22 wr => ∃ i j : Nat, i ≤ bn ∧ s22 = .int .i64 i ∧ wr = w10.drewN j) (fun s22 wr => bn - (intOf s22).toNat)
  case atStart => exact ⟨0, 0, by omega, rfl, rfl⟩
  case round =>
    obtain ⟨i, j, hi, rfl, rfl⟩ := hrel
    by_cases hib : i < bn
    · obtain ⟨gw, cw, hgw, hcw⟩ := HBW.out.opened (by have := HBN.out; omega)
      obtain ⟨rfl, rfl, rfl⟩ : da2 = some ⟨gw, 0, none⟩ ∧ bn = s.length ∧ dc2 = cw := by simpa using hgw
      have d1 := HC1.out i (by have := HLQ.out; omega)
      have d2 := hcw i hib
      rw [HBO.out.want i hib] at d1
      generalize ((s.getD i 0).toNat : Int) = x at d1 d2
      have hin1 : (i : Int) < (n1 : Int) := by omega
      clear hcw
      go_wp2
      go_quiet (fail)
      go_wp2
      go_roundw
      case rel => exact ⟨i + 1, _, by omega, by simp, rfl⟩
      case measure => simp [intOf]; omega
    obtain rfl : bn = i := by omega
    obtain ⟨w11, hw⟩ : ∃ w', w10.drewN j = w' := ⟨_, rfl⟩
    have HC1' := hide (show ∀ j, j < q.length → w11.cell? ⟨g1, j, none⟩ = some (.int .u8 (q.getD j 0).toNat) from hw ▸ HC1.out)
    have HC2' := hide (show ∀ j, j < qx.length → w11.cell? ⟨g2, j, none⟩ = some (.int .u8 (qx.getD j 0).toNat) from hw ▸ HC2.out)
    have HC3' := hide (show ∀ j, j < qy.length → w11.cell? ⟨g3, j, none⟩ = some (.int .u8 (qy.getD j 0).toNat) from hw ▸ HC3.out)
    have HW' := hide (show W.grownBy w11 none from hw ▸ grownBy_trans_none HW.out (grownBy_drewN w10 j none))
    rw [hw]
    clear HC1 HC2 HC3 HW hw
    go_wp2_with fail
    obtain ⟨post, hpost⟩ := HBO.out.dq
    refine (f10_any g1 n1 c1' bn view nn inst n q post w11 ((hh : Int) + (k1 : Int)) a0 a1 b0 b1 c0 c1 (by omega) (by omega) HLQ.out (by omega) (by have h := HC1'.out; rw [HLQ.out] at h; exact h) (by rw [← HBN.out]; exact hpost) (by rw [HL1'.out, HL2'.out, HL3'.out, ← E1.out]; omega)).mono ?_
    rintro e w ⟨rfl, hw⟩
    obtain rfl : w11 = w := hw.symm
    clear hpost post
    go_wp2_with fail
    obtain ⟨post, hpost⟩ := HBO.out.dx
    refine (f10_any g2 n2 c2' bn view nn inst k qx post w11 ((hh : Int) + (k2 : Int)) a0 a1 b0 b1 c0 c1 (by omega) (by omega) HLX.out (by omega) (by have h := HC2'.out; rw [HLX.out] at h; exact h) (by rw [← HBN.out]; exact hpost) (by rw [HL1'.out, HL2'.out, HL3'.out, ← E2.out]; omega)).mono ?_
    rintro e w ⟨rfl, hw⟩
    obtain rfl : w11 = w := hw.symm
    clear hpost post
    go_wp2_with fail
    obtain ⟨post, hpost⟩ := HBO.out.dy
    refine (f10_any g3 n3 c3' bn view nn inst m qy post w11 ((hh : Int) + (k3 : Int)) a0 a1 b0 b1 c0 c1 (by omega) (by omega) HLY.out (by omega) (by have h := HC3'.out; rw [HLY.out] at h; exact h) (by rw [← HBN.out]; exact hpost) (by rw [HL1'.out, HL2'.out, HL3'.out, ← E3.out]; omega)).mono ?_
    rintro e w ⟨rfl, hw⟩
    obtain rfl : w11 = w := hw.symm
    clear hpost post
    go_wp2_with fail
    go_loopw [25] (fun s25 wr => ∃ i j : Nat, i ≤ hh ∧ s25 = .int .i64 i ∧ wr = w11.drewN j) (fun s25 wr => hh - (intOf s25).toNat)
    case atStart => exact ⟨0, 0, by omega, rfl, rfl⟩
    case round =>
      obtain ⟨i, j, hi, rfl, rfl⟩ := hrel
      by_cases hib : i < hh
      · have d1 := HC1'.out i (by have := HLQ.out; omega)
        have d2 := HC2'.out i (by have := HLX.out; omega)
        have d3 := HC3'.out i (by have := HLY.out; omega)
        rw [← (HBO.out.same i hib).1] at d2
        rw [← (HBO.out.same i hib).2] at d3
        generalize ((q.getD i 0).toNat : Int) = x at d1 d2 d3
        have hin1 : (i : Int) < (n1 : Int) := by omega
        have hin2 : (i : Int) < (n2 : Int) := by omega
        have hin3 : (i : Int) < (n3 : Int) := by omega
        go_wp2
        go_quiet (fail)
        go_wp2
        go_roundw
        case rel => exact ⟨i + 1, _, by omega, by simp, rfl⟩
        case measure => simp [intOf]; omega
      obtain rfl : hh = i := by omega
      obtain ⟨w12, hw⟩ : ∃ w', w11.drewN j = w' := ⟨_, rfl⟩
      have HC1p := hide (show ∀ j, j < q.length → w12.cell? ⟨g1, j, none⟩ = some (.int .u8 (q.getD j 0).toNat) from hw ▸ HC1'.out)
      have HC2p := hide (show ∀ j, j < qx.length → w12.cell? ⟨g2, j, none⟩ = some (.int .u8 (qx.getD j 0).toNat) from hw ▸ HC2'.out)
      have HC3p := hide (show ∀ j, j < qy.length → w12.cell? ⟨g3, j, none⟩ = some (.int .u8 (qy.getD j 0).toNat) from hw ▸ HC3'.out)
      have HWp := hide (show W.grownBy w12 none from hw ▸ grownBy_trans_none HW'.out (grownBy_drewN w11 j none))
      rw [hw]
      clear HC1' HC2' HC3' HW' hw
      have v1 : (n2 : Int) - ((hh : Int) + (k2 : Int)) = (ex : Int) := by have := LX.out; omega
      have v2 : (n3 : Int) - ((hh : Int) + (k3 : Int)) = (ey : Int) := by have := LY.out; omega
      obtain ⟨et, het⟩ : ∃ et, ex + ey = et := ⟨_, rfl⟩
      have v3 : (n1 : Int) - ((hh : Int) + (k1 : Int)) = (et : Int) := by have := LQ.out; omega
      have v4 : (ex : Int) + (ey : Int) = (et : Int) := by omega
      have HET := hide het
      clear het
      go_wp2_with fail
      go_loopw [28] (fun s28 wr => ∃ i j : Nat, i ≤ ex ∧ s28 = .int .i64 i ∧ wr = w12.drewN j) (fun s28 wr => ex - (intOf s28).toNat)
      case atStart => exact ⟨0, 0, by omega, rfl, rfl⟩
      case round =>
        obtain ⟨i, j, hi, rfl, rfl⟩ := hrel
        by_cases hib : i < ex
        · have u1 := LQ.out
          have u2 := LX.out
          have d1 := HC1p.out (hh + k1 + i) (by have := HLQ.out; omega)
          have d2 := HC2p.out (hh + k2 + i) (by have := HLX.out; omega)
          rw [HBO.out.px i hib] at d1
          generalize ((qx.getD (hh + k2 + i) 0).toNat : Int) = x at d1 d2
          have z1 : ((hh + k1 + i : Nat) : Int) = (hh : Int) + (k1 : Int) + (i : Int) := by omega
          have z2 : ((hh + k2 + i : Nat) : Int) = (hh : Int) + (k2 : Int) + (i : Int) := by omega
          have y1 : hh + k1 + i < n1 := by omega
          have y2 : hh + k2 + i < n2 := by omega
          obtain ⟨x1, hx1⟩ : ∃ x1, hh + k1 + i = x1 := ⟨_, rfl⟩
          obtain ⟨x2, hx2⟩ : ∃ x2, hh + k2 + i = x2 := ⟨_, rfl⟩
          rw [hx1] at d1 z1 y1
          rw [hx2] at d2 z2 y2
          replace z1 := z1.symm
          replace z2 := z2.symm
          clear hx1 hx2 u1 u2
          go_wp2
          go_quiet (fail)
          go_wp2
          go_roundw
          case rel => exact ⟨i + 1, _, by omega, by simp, rfl⟩
          case measure => simp [intOf]; omega
        obtain rfl : ex = i := by omega
        obtain ⟨w13, hw⟩ : ∃ w', w12.drewN j = w' := ⟨_, rfl⟩
        have HC1r := hide (show ∀ j, j < q.length → w13.cell? ⟨g1, j, none⟩ = some (.int .u8 (q.getD j 0).toNat) from hw ▸ HC1p.out)
        have HC2r := hide (show ∀ j, j < qx.length → w13.cell? ⟨g2, j, none⟩ = some (.int .u8 (qx.getD j 0).toNat) from hw ▸ HC2p.out)
        have HC3r := hide (show ∀ j, j < qy.length → w13.cell? ⟨g3, j, none⟩ = some (.int .u8 (qy.getD j 0).toNat) from hw ▸ HC3p.out)
        have HWr := hide (show W.grownBy w13 none from hw ▸ grownBy_trans_none HWp.out (grownBy_drewN w12 j none))
        rw [hw]
        clear HC1p HC2p HC3p HWp hw
        go_wp2
        go_loopw [29] (fun s29 wr => ∃ i j : Nat, i ≤ ey ∧ s29 = .int .i64 i ∧ wr = w13.drewN j) (fun s29 wr => ey - (intOf s29).toNat)
        case atStart => exact ⟨0, 0, by omega, rfl, rfl⟩
        case round =>
          obtain ⟨i, j, hi, rfl, rfl⟩ := hrel
          by_cases hib : i < ey
          · have u1 := LQ.out
            have u2 := LY.out
            have d1 := HC1r.out (hh + k1 + ex + i) (by have := HLQ.out; omega)
            have d2 := HC3r.out (hh + k3 + i) (by have := HLY.out; omega)
            rw [HBO.out.py i hib] at d1
            generalize ((qy.getD (hh + k3 + i) 0).toNat : Int) = x at d1 d2
            have z1 : ((hh + k1 + ex + i : Nat) : Int) = (hh : Int) + (k1 : Int) + (ex : Int) + (i : Int) := by omega
            have z2 : ((hh + k3 + i : Nat) : Int) = (hh : Int) + (k3 : Int) + (i : Int) := by omega
            have y1 : hh + k1 + ex + i < n1 := by omega
            have y2 : hh + k3 + i < n3 := by omega
            obtain ⟨x1, hx1⟩ : ∃ x1, hh + k1 + ex + i = x1 := ⟨_, rfl⟩
            obtain ⟨x2, hx2⟩ : ∃ x2, hh + k3 + i = x2 := ⟨_, rfl⟩
            rw [hx1] at d1 z1 y1
            rw [hx2] at d2 z2 y2
            replace z1 := z1.symm
            replace z2 := z2.symm
            clear hx1 hx2 u1 u2
            go_wp2
            go_quiet (fail)
            go_wp2
            go_roundw
            case rel => exact ⟨i + 1, _, by omega, by simp, rfl⟩
            case measure => simp [intOf]; omega
          obtain rfl : ey = i := by omega
          go_wp2
          go_ret
          exact ⟨rfl, grownBy_trans_none HWr.out (grownBy_drewN w13 j none)⟩
end Go.Proofs.Qxb6614913a
