import Derived.Test.Qxb6614913aWalkA
namespace Go.Proofs.Qxb6614913a
open Go.RowKit
set_option linter.unusedVariables false
set_option linter.unusedSimpArgs false

/-- The varint of a number, as the walks call it. -/
def uv (x : Int) : List UInt8 := Lib.uvarint x.toNat
theorem uv_len (x : Int) (h : x < 18446744073709551616) : (uv x).length ≤ 10 := Lib.uvarint_length64 (by omega)

/-- AppendUvarint, ready to be offered: the argument whatever Int in range, the outcome a letter. -/
theorem f16_to (v : Value) (l : List UInt8) (x : Int) (w : World) (r : List UInt8) (h0 : 0 ≤ x) (hx : x < 18446744073709551616) (hv : Buf w v l) (hlim : l.length + 10 ≤ 1099511627776) (hr : l ++ uv x = r) :
    Calls Try.prog 16 #[v, .int .u64 x] w fun e w' => ∃ v', e = .returned v' ∧ Buf w' v' r ∧ Fr w v w' v' := by
  obtain ⟨n, rfl⟩ := Int.eq_ofNat_of_zero_le h0
  have h := f16_any v l n w (by omega) hv hlim
  rw [← hr]
  exact h

theorem add_block (a : Addr) (j : Nat) : (a.add j).block = a.block := by
  unfold Addr.add; split <;> rfl

/-- A source that a write to v's row does not touch. -/
structure SrcK (w : World) (v : Value) (x : Value) (s : List UInt8) : Prop where
  src : SrcB w v x s
  sep : ∀ ad n c, x = .slice (some ad) n c → s ≠ [] → some ad.block ≠ v.ownBlock

theorem SrcK.fr {w w1 : World} {v v1 x : Value} {s : List UInt8} (h : SrcK w v x s) (hf : Fr w v w1 v1) : SrcK w1 v1 x s := by
  obtain ⟨ao, c, rfl, hn, hc⟩ := h.src.shape
  have key : ∀ ad, ao = some ad → s ≠ [] → ad.block < w.heap.size := by
    intro ad e hs
    cases s with
    | nil => exact absurd rfl hs
    | cons b t =>
      have := World.block_lt_of_cell? w _ (hc ad e 0 (.int .u8 b.toNat) (by simp [Lib.byteCells]))
      rwa [add_block] at this
  refine ⟨⟨⟨ao, c, rfl, hn, fun ad e j u hu => ?_⟩, h.src.nil⟩, fun ad n c' e hs => ?_⟩
  · have hs : s ≠ [] := by rintro rfl; simp [Lib.byteCells] at hu
    rw [hf.cell (by rw [add_block]; exact key ad e hs) (by rw [add_block]; exact h.sep ad _ _ (by rw [e]) hs)]
    exact hc ad e j u hu
  · cases e
    exact hf.sep (key ad rfl hs) (h.sep ad _ _ rfl hs)

/-- 'appendBytes'. -/
def encB (s : List UInt8) : List UInt8 := uv s.length ++ s
theorem encB_len (s : List UInt8) (h : s.length ≤ 1048576) : (encB s).length ≤ s.length + 10 := by
  unfold encB; rw [List.length_append]; have := uv_len (s.length : Int) (by omega); omega

set_option maxHeartbeats 400000 in
theorem f20_to (v xv : Value) (l s : List UInt8) (w : World) (r : List UInt8) (hv : Buf w v l) (hx : SrcK w v xv s) (hs : s.length ≤ 1048576) (hlim : l.length + 2000000 ≤ 1099511627776) (hr : l ++ encB s = r) :
    Calls Try.prog 20 #[v, xv] w fun e w' => ∃ v', e = .returned v' ∧ Buf w' v' r ∧ Fr w v w' v' := by
  obtain ⟨ao, c, hxv, _⟩ := hx.src.shape
  obtain ⟨r1, hr1⟩ : ∃ r1 : List UInt8, l ++ uv s.length = r1 := ⟨_, rfl⟩
  have h16 := f16_to v l (s.length : Int) w r1 (by omega) (by omega) hv (by omega) hr1
  have hl1 : r1.length ≤ l.length + 10 := by rw [← hr1, List.length_append]; have := uv_len (s.length : Int) (by omega); omega
  have HX : Hid (SrcK w v xv s) := hx
  have HR : Hid (r1 ++ s = r) := by rw [← hr1, ← hr]; simp [encB, Hid]
  have HXV : Hid (xv = .slice ao s.length c) := hxv
  rw [hxv]
  clear hx hr hr1 hv hxv
  go_enter Try.func20, Try.ntmps20
  go_wp2_with (first
    | (go_at_call 16; refine h16.mono ?_; rintro e w1 ⟨v1, rfl, hb1, hf1⟩)
    | (at_builtin; refine wpList_append_buf rfl _ _ rfl _ r1 rfl hb1 _ s rfl ?c1 ?c2 r HR.out ?_))
  case c1 => have := (HX.out.fr hf1).src; rw [HXV.out] at this; exact this
  case c2 => omega
  intro v2 w2 hb2 hf2
  go_wp2
  go_ret
  exact ⟨v2, rfl, hb2, hf1.trans hf2⟩

set_option maxHeartbeats 400000 in
theorem f24_to (v : Value) (b : Bool) (l : List UInt8) (w : World) (r : List UInt8) (hv : Buf w v l) (hlim : l.length + 10 ≤ 1099511627776) (hr : l ++ [if b then 1 else 0] = r) :
    Calls Try.prog 24 #[v, .bool b] w fun e w' => ∃ v', e = .returned v' ∧ Buf w' v' r ∧ Fr w v w' v' := by
  obtain ⟨sb, hsb⟩ : ∃ sb : List UInt8, sb = [if b then 1 else 0] := ⟨_, rfl⟩
  rw [← hsb] at hr
  have HSB : Hid (sb = [if b then 1 else 0]) := hsb
  have HR : Hid (l ++ sb = r) := hr
  have hl : l.length + sb.length ≤ 1099511627776 := by rw [hsb]; simp; omega
  clear hsb hr
  cases b
  · go_enter Try.func24, Try.ntmps24
    go_wp2_with (at_builtin; refine wpList_append_buf rfl _ _ rfl _ l rfl (hv.alloc _) _ sb rfl ?c1 hl r HR.out ?_)
    case c1 => rw [HSB.out]; exact src_nat _ _ 0 (by omega)
    intro v2 w2 hb2 hf2
    go_wp2
    go_ret
    exact ⟨v2, rfl, hb2, Fr.pre (World.grownBy_alloc _ _ _) hf2⟩
  · go_enter Try.func24, Try.ntmps24
    go_wp2_with (at_builtin; refine wpList_append_buf rfl _ _ rfl _ l rfl (hv.alloc _) _ sb rfl ?c1 hl r HR.out ?_)
    case c1 => rw [HSB.out]; exact src_nat _ _ 1 (by omega)
    intro v2 w2 hb2 hf2
    go_wp2
    go_ret
    exact ⟨v2, rfl, hb2, Fr.pre (World.grownBy_alloc _ _ _) hf2⟩

/-- A box of the callee's own reads behind an appender as it was laid. -/
theorem box_kept {w w1 : World} {v v1 : Value} {cs : Array Value} {t : TypeId} {l : List UInt8} (hv : Buf w v l) (hf : Fr (w.alloc (.cells cs t)) v w1 v1) : ∀ j, w1.cell? ⟨w.heap.size, j, none⟩ = cs[j]? := by
  intro j
  rw [hf.cell (by simp) (by exact hv.new)]
  exact World.cell?_alloc_new _ _ _ _

set_option maxHeartbeats 400000 in
theorem f15_to (v : Value) (a b : Int) (l : List UInt8) (w : World) (r : List UInt8) (hv : Buf w v l) (ha0 : 0 ≤ a) (ha : a < 18446744073709551616) (hb0 : 0 ≤ b) (hb : b < 18446744073709551616) (hlim : l.length + 20 ≤ 1099511627776) (hr : l ++ uv a ++ uv b = r) :
    Calls Try.prog 15 #[v, .agg #[.int .u64 a, .int .u64 b]] w fun e w' => ∃ v', e = .returned v' ∧ Buf w' v' r ∧ Fr w v w' v' := by
  obtain ⟨r1, hr1⟩ : ∃ r1 : List UInt8, l ++ uv a = r1 := ⟨_, rfl⟩
  have hl1 : r1.length ≤ l.length + 10 := by rw [← hr1, List.length_append]; have := uv_len a ha; omega
  have h16 := f16_to v l a (w.alloc (.cells #[.int .u64 a, .int .u64 b] 45)) r1 ha0 ha (hv.alloc _) (by omega) hr1
  have HR : Hid (r1 ++ uv b = r) := by rw [← hr1, ← hr]; exact rfl
  clear hr hr1
  go_enter Try.func15, Try.ntmps15
  go_wp2_with fail
  refine h16.mono ?_
  rintro e w1 ⟨v1, rfl, hb1, hf1⟩
  have hbox := box_kept hv hf1
  clear h16
  go_wp2_with fail
  refine (f16_to v1 r1 b w1 r hb0 hb hb1 (by omega) HR.out).mono ?_
  rintro e w2 ⟨v2, rfl, hb2, hf2⟩
  go_wp2
  go_ret
  exact ⟨v2, rfl, hb2, Fr.pre (World.grownBy_alloc _ _ _) (hf1.trans hf2)⟩
end Go.Proofs.Qxb6614913a
