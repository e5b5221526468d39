import Derived.Test.Qxb6614913aWalkC
namespace Go.Proofs.Qxb6614913a
open Go.RowKit
set_option linter.unusedVariables false
set_option linter.unusedSimpArgs false

theorem conv_bytes (w : World) (s : ByteArray) : (convert 9 22 (.string s)).run Try.prog w = .ok (.slice (some ⟨w.heap.size, 0, none⟩) s.size (grownCap w s.size 0 5)) (Lib.bytesWorld w 5 s) :=
  Lib.run_convert_string_bytes w 9 22 5 s Try.underlying9 Try.underlying22 Try.underlying5

/-- A string converted, as a source. -/
theorem srcK_bytes {w : World} {v : Value} {l : List UInt8} (hv : Buf w v l) (s : ByteArray) : SrcK (Lib.bytesWorld w 5 s) v (.slice (some ⟨w.heap.size, 0, none⟩) s.size (grownCap w s.size 0 5)) s.data.toList :=
  ⟨src_bytes w v s, fun ad n c e _ => by cases e; exact hv.new⟩

/-- 'appendBytes(b, []byte(s))'. -/
theorem f20_str (v : Value) (l : List UInt8) (s : ByteArray) (w : World) (r : List UInt8) (hv : Buf w v l) (hs : s.size ≤ 1048576) (hlim : l.length + 2000000 ≤ 1099511627776) (hr : l ++ encB s.data.toList = r) :
    Calls Try.prog 20 #[v, .slice (some ⟨w.heap.size, 0, none⟩) s.size (grownCap w s.size 0 5)] (Lib.bytesWorld w 5 s) fun e w' => ∃ v', e = .returned v' ∧ Buf w' v' r ∧ Fr w v w' v' :=
  (f20_to v _ l s.data.toList (Lib.bytesWorld w 5 s) r (hv.grown (grownBy_bytes w s _)) (srcK_bytes hv s) hs hlim hr).mono fun e w' ⟨v', he, hb, hf⟩ => ⟨v', he, hb, Fr.pre (grownBy_bytes w s _) hf⟩

/-- A set request's data. -/
structure SetD where
  read : Bool
  elem : ByteArray
  remove : Bool
  same : Bool
  at_ : Int
def SetD.vals (d : SetD) : Array Value := #[.bool d.read, .string d.elem, .bool d.remove, .bool d.same, .int .u64 d.at_]
structure SetD.ok (d : SetD) : Prop where
  e : d.elem.size ≤ 1048576
  a0 : 0 ≤ d.at_
  a1 : d.at_ < 18446744073709551616
/-- 'appendSetRequest'. -/
def encS (d : SetD) : List UInt8 :=
  if d.read then uv 6 else uv (if d.remove then 5 else 4) ++ [if d.same then 1 else 0] ++ uv d.at_ ++ encB d.elem.data.toList

set_option maxHeartbeats 1000000 in
theorem f23_tail (v : Value) (l : List UInt8) (elem : ByteArray) (remove same : Bool) (at_ : Int) (k : Int) (hk0 : 0 ≤ k) (hk : k < 18446744073709551616) (hkr : k = if remove then 5 else 4) (w : World) (r : List UInt8) (hv : Buf w v l) (he : elem.size ≤ 1048576) (ha0 : 0 ≤ at_) (ha1 : at_ < 18446744073709551616)
    (hlim : l.length + 3000000 ≤ 1099511627776) (hr : l ++ (uv k ++ [if same then 1 else 0] ++ uv at_ ++ encB elem.data.toList) = r) :
    Calls Try.prog 23 #[v, .agg #[.bool false, .string elem, .bool remove, .bool same, .int .u64 at_]] w fun e w' => ∃ v', e = .returned v' ∧ Buf w' v' r ∧ Fr w v w' v' := by
  obtain ⟨r1, hr1⟩ : ∃ r1 : List UInt8, l ++ uv k = r1 := ⟨_, rfl⟩
  obtain ⟨r2, hr2⟩ : ∃ r2 : List UInt8, r1 ++ [if same then 1 else 0] = r2 := ⟨_, rfl⟩
  obtain ⟨r3, hr3⟩ : ∃ r3 : List UInt8, r2 ++ uv at_ = r3 := ⟨_, rfl⟩
  have hl1 : r1.length ≤ l.length + 10 := by rw [← hr1, List.length_append]; have := uv_len k hk; omega
  have hl2 : r2.length ≤ l.length + 11 := by rw [← hr2, List.length_append]; simp; omega
  have hl3 : r3.length ≤ l.length + 21 := by rw [← hr3, List.length_append]; have := uv_len at_ ha1; omega
  have HR : Hid (r3 ++ encB elem.data.toList = r) := by show _ = _; rw [← hr3, ← hr2, ← hr1, ← hr]; simp
  have HR2 : Hid (r1 ++ [if same then 1 else 0] = r2) := hr2
  have HR3 : Hid (r2 ++ uv at_ = r3) := hr3
  have h16 := f16_to v l k (w.alloc (.cells #[.bool false, .string elem, .bool remove, .bool same, .int .u64 at_] 57)) r1 hk0 hk (hv.alloc _) (by omega) hr1
  clear hr hr1 hr2 hr3
  have hcv := conv_bytes
  cases remove
  all_goals
    simp only [if_true, if_false, Bool.false_eq_true] at hkr
    subst hkr
    go_enter Try.func23, Try.ntmps23
    go_wp2_with fail
    refine h16.mono ?_
    rintro e w1 ⟨v1, rfl, hb1, hf1⟩
    have hbox1 := box_kept hv hf1
    clear h16
    go_wp2_with fail
    refine (f24_to v1 same r1 w1 r2 hb1 (by omega) HR2.out).mono ?_
    rintro e w2 ⟨v2, rfl, hb2, hf2⟩
    have hbox2 := box_kept hv (hf1.trans hf2)
    clear hbox1
    go_wp2_with fail
    refine (f16_to v2 r2 at_ w2 r3 ha0 ha1 hb2 (by omega) HR3.out).mono ?_
    rintro e w3 ⟨v3, rfl, hb3, hf3⟩
    have hbox3 := box_kept hv ((hf1.trans hf2).trans hf3)
    clear hbox2
    go_wp2_with fail
    refine (f20_str v3 r3 elem w3 r hb3 he (by omega) HR.out).mono ?_
    rintro e w4 ⟨v4, rfl, hb4, hf4⟩
    go_wp2
    go_ret
    exact ⟨v4, rfl, hb4, Fr.pre (World.grownBy_alloc _ _ _) (((hf1.trans hf2).trans hf3).trans hf4)⟩

set_option maxHeartbeats 1000000 in
theorem f23_to (v : Value) (l : List UInt8) (d : SetD) (w : World) (r : List UInt8) (hv : Buf w v l) (hd : d.ok) (hlim : l.length + 3000000 ≤ 1099511627776) (hr : l ++ encS d = r) :
    Calls Try.prog 23 #[v, .agg d.vals] w fun e w' => ∃ v', e = .returned v' ∧ Buf w' v' r ∧ Fr w v w' v' := by
  obtain ⟨read, elem, remove, same, at_⟩ := d
  cases read with
  | true =>
    have h16 := f16_to v l 6 (w.alloc (.cells #[.bool true, .string elem, .bool remove, .bool same, .int .u64 at_] 57)) r (by omega) (by omega) (hv.alloc _) (by omega) (by simpa [encS] using hr)
    clear hr
    show Calls Try.prog 23 #[v, .agg #[.bool true, .string elem, .bool remove, .bool same, .int .u64 at_]] w _
    go_enter Try.func23, Try.ntmps23
    go_wp2_with fail
    refine h16.mono ?_
    rintro e w1 ⟨v1, rfl, hb1, hf1⟩
    go_wp2
    go_ret
    exact ⟨v1, rfl, hb1, Fr.pre (World.grownBy_alloc _ _ _) hf1⟩
  | false =>
    refine f23_tail v l elem remove same at_ (if remove then 5 else 4) (by split <;> omega) (by split <;> omega) rfl w r hv hd.e hd.a0 hd.a1 hlim ?_
    rw [← hr]; simp [encS]
end Go.Proofs.Qxb6614913a
