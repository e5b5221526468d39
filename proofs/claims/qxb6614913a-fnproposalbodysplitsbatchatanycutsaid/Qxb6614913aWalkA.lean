import Derived.Test.Qxb6614913aApp
namespace Go.Proofs.Qxb6614913a
open Go.RowKit
set_option linter.unusedVariables false
set_option linter.unusedSimpArgs false

theorem src_nat (w : World) (v : Value) (n : Nat) (hn : n < 256) : SrcB (w.alloc (.cells #[.int .u8 (n : Int)] 5)) v (.slice (some ⟨w.heap.size, 0, none⟩) 1 1) [n.toUInt8] := by
  have := src_one w v n.toUInt8
  rwa [Lib.toUInt8_toNat hn] at this

set_option maxHeartbeats 1000000 in
set_option maxRecDepth 100000 in
theorem f16_any (v : Value) (l : List UInt8) (x : Nat) (w : World) (hx : x < 18446744073709551616) (hv : Buf w v l) (hlim : l.length + 10 ≤ 1099511627776) :
    Calls Try.prog 16 #[v, .int .u64 x] w fun e w' => ∃ v', e = .returned v' ∧ Buf w' v' (l ++ Lib.uvarint x) ∧ Fr w v w' v' := by
  have hlen := Lib.uvarint_length64 hx
  have HV : Hid (Buf w v l) := hv
  clear hv
  go_enter Try.func16, Try.ntmps16
  go_wp2
  go_loopw [0, 1] (fun vb vx wr => ∃ (y : Nat) (pre q : List UInt8), vx = .int .u64 y ∧ y ≤ x ∧ Hid (Lib.uvarint x = pre ++ Lib.uvarint y) ∧ Hid (q = l ++ pre) ∧ Buf wr vb q ∧ Fr w v wr vb)
    (fun _ vx _ => (intOf vx).toNat)
  case atStart => exact ⟨x, [], l, rfl, Nat.le_refl _, rfl, (List.append_nil l).symm, HV.out, Fr.refl _ _⟩
  case round =>
    obtain ⟨y, pre, q, rfl, hy, hsplit, HQ, hown1, hfr⟩ := hrel
    have hpl : pre.length + (Lib.uvarint y).length ≤ 10 := by
      have h2 := congrArg List.length hsplit.out
      rw [List.length_append] at h2
      omega
    have hyp := Lib.uvarint_pos y
    have hlim2 : q.length + 1 ≤ 1099511627776 := by rw [HQ.out, List.length_append]; omega
    clear hpl hyp
    by_cases h128 : 128 ≤ y
    · obtain ⟨c, hc⟩ : ∃ c : Nat, c = y % 128 + 128 := ⟨_, rfl⟩
      have hor : bits .or .u8 ((y : Int) % 256) 128 = (c : Int) := by
        rw [Lib.u8_or128_any _ (by omega) (by omega)]
        omega
      have hc2 : c < 256 := by omega
      have HC : Hid (c = y % 128 + 128) := hc
      obtain ⟨sb, hsb⟩ : ∃ sb : List UInt8, sb = [c.toUInt8] := ⟨_, rfl⟩
      obtain ⟨r, hr⟩ : ∃ r : List UInt8, r = q ++ sb := ⟨_, rfl⟩
      have HSB : Hid (sb = [c.toUInt8]) := hsb
      have HR : Hid (r = q ++ sb) := hr
      clear hc hsb hr
      go_wp2_with (at_builtin; refine wpList_append_buf rfl _ _ rfl _ q rfl (hown1.alloc _) _ sb rfl ?c1 ?c2 r HR.out.symm ?_)
      case c1 => rw [HSB.out]; exact src_nat _ _ _ hc2
      case c2 => rw [HSB.out]; exact hlim2
      intro v' w1 hb1 hf1
      have hf2 := hfr.trans (Fr.pre (World.grownBy_alloc _ _ _) hf1)
      clear hf1 hor
      go_wp2
      go_roundw
      case rel =>
        refine ⟨y / 128, pre ++ [c.toUInt8], r, by go_num, by omega, ?_, ?_, hb1, hf2⟩
        · show _ = _
          rw [hsplit.out, Lib.uvarint_big h128, HC.out, List.append_assoc]; rfl
        · show _ = _
          rw [HR.out, HSB.out, HQ.out, List.append_assoc]
      case measure => simp [intOf]; omega
    · obtain ⟨sb, hsb⟩ : ∃ sb : List UInt8, sb = [y.toUInt8] := ⟨_, rfl⟩
      obtain ⟨r, hr⟩ : ∃ r : List UInt8, r = q ++ sb := ⟨_, rfl⟩
      have HSB : Hid (sb = [y.toUInt8]) := hsb
      have HR : Hid (r = q ++ sb) := hr
      clear hsb hr
      have hmod : (y : Int) % 256 = (y : Int) := by omega
      go_wp2_with (at_builtin; refine wpList_append_buf rfl _ _ rfl _ q rfl (hown1.alloc _) _ sb rfl ?c1 ?c2 r HR.out.symm ?_)
      case c1 => rw [HSB.out]; exact src_nat _ _ _ (by omega)
      case c2 => rw [HSB.out]; exact hlim2
      intro v' w1 hb1 hf1
      have hf2 := hfr.trans (Fr.pre (World.grownBy_alloc _ _ _) hf1)
      clear hf1
      go_wp2
      go_ret
      refine ⟨v', rfl, ?_, hf2⟩
      have e : r = l ++ Lib.uvarint x := by rw [HR.out, HSB.out, HQ.out, hsplit.out, Lib.uvarint_small (by omega), List.append_assoc]
      rw [← e]; exact hb1
end Go.Proofs.Qxb6614913a
