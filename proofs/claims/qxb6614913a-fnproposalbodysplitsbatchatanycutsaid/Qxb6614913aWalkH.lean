import Derived.Test.Qxb6614913aWalkG
import Derived.Lib.VarintBits
namespace Go.Proofs.Qxb6614913a
open Go.RowKit
set_option linter.unusedVariables false
set_option linter.unusedSimpArgs false

set_option maxHeartbeats 400000 in
set_option maxRecDepth 100000 in
theorem f9_any (x : Nat) (w : World) (hx : x < 18446744073709551616) : Calls Try.prog 9 #[.int .u64 x] w fun e w' => e = .returned (.int .i64 (Lib.uvarint x).length) ∧ w' = w := by
  have hlen := Lib.uvarint_length64 hx
  generalize hL : (Lib.uvarint x).length = L at hlen ⊢
  have HL : Hid ((Lib.uvarint x).length = L) := hL
  clear hL
  go_enter Try.func9, Try.ntmps9
  go_wp2
  go_loop [0, 3] (fun s0 s3 => ∃ y m q : Nat, s0 = .int .u64 y ∧ s3 = .int .i64 m ∧ y ≤ x ∧ m + q = L + 1 ∧ Hid ((Lib.uvarint y).length = q) ∧ 1 ≤ q) (fun s0 s3 => (intOf s0).toNat)
  case atStart => exact ⟨x, 1, L, rfl, rfl, Nat.le_refl _, by omega, HL, by rw [← HL.out]; exact Lib.uvarint_pos x⟩
  case round =>
    obtain ⟨y, m, q, rfl, rfl, hy, hm, HQ, hq⟩ := hrel
    by_cases h128 : 128 ≤ y
    · have e : q = (Lib.uvarint (y / 128)).length + 1 := by rw [← HQ.out, Lib.uvarint_big h128]; rfl
      have hp := Lib.uvarint_pos (y / 128)
      have HM : Hid (m + q = L + 1) := hm
      have hmb : m ≤ L + 1 := by omega
      have HE : Hid (q = (Lib.uvarint (y / 128)).length + 1) := e
      clear hm e
      go_wp2
      go_roundw
      case rel => exact ⟨y / 128, m + 1, (Lib.uvarint (y / 128)).length, by go_num, by go_num, by omega, by have := HM.out; have := HE.out; omega, rfl, hp⟩
      case measure => simp [intOf]; omega
    · have e : q = 1 := by rw [← HQ.out, Lib.uvarint_small (by omega)]; rfl
      have e2 : m = L := by omega
      subst e2
      clear hm
      go_wp2
      go_ret
      exact ⟨rfl, rfl⟩

theorem or_high (acc d k : Nat) (ha : acc < 2 ^ (7 * k)) (hs : acc + d * 2 ^ (7 * k) < 18446744073709551616) : bits .or .u64 (acc : Int) (IntKind.u64.wrap ((d : Int) * 2 ^ (7 * k))) = ((acc + d * 2 ^ (7 * k) : Nat) : Int) := by
  have e : ((d : Int) * 2 ^ (7 * k)) = ((d * 2 ^ (7 * k) : Nat) : Int) := by rw [Int.natCast_mul, Int.natCast_pow]; rfl
  rw [e, wraps_u64 _ (by omega) (by have h := hs; omega)]
  rw [bits_or_u64_nat acc (d * 2 ^ (7 * k)) (by omega) (by omega)]
  congr 1
  rw [Nat.or_comm, Nat.mul_comm d, ← Nat.two_pow_add_eq_or_of_lt ha, Nat.add_comm]

theorem and_low (b : Nat) (hb : b < 256) : IntKind.u64.wrap (bits .and .u8 (b : Int) 127) = ((b % 128 : Nat) : Int) := by
  have h1 : bits .and .u8 (b : Int) 127 = ((b &&& 127 : Nat) : Int) := (bits_nat .u8 8 (by decide) wraps_u8 b 127 (by simpa using hb) (by decide)).1
  have h2 : b &&& 127 = b % 128 := Nat.and_two_pow_sub_one_eq_mod b 7
  rw [h1, h2, wraps_u64 _ (by omega) (by omega)]

/-- Where the reading of a varint stands after k bytes. -/
structure UvAt (x : Nat) (q post : List UInt8) (p k y acc : Nat) : Prop where
  rest : q.drop (p + k) = Lib.uvarint y ++ post
  sum : x = acc + y * 2 ^ (7 * k)
  low : acc < 2 ^ (7 * k)
  len : (Lib.uvarint x).length = k + (Lib.uvarint y).length
  pos : k = 0 ∨ 1 ≤ y

theorem pow7_succ (k : Nat) : 2 ^ (7 * (k + 1)) = 128 * 2 ^ (7 * k) := by
  rw [show 7 * (k + 1) = 7 * k + 7 by omega, Nat.pow_add, Nat.mul_comm]

theorem UvAt.next {x : Nat} {q post : List UInt8} {p k y acc : Nat} (h : UvAt x q post p k y acc) (hy : 128 ≤ y) : UvAt x q post p (k + 1) (y / 128) (acc + y % 128 * 2 ^ (7 * k)) := by
  have hl := h.low
  refine ⟨?_, ?_, ?_, ?_, .inr (by omega)⟩
  · have := h.rest
    rw [Lib.uvarint_big hy] at this
    rw [show p + (k + 1) = (p + k) + 1 by omega, ← List.drop_drop, this]
    rfl
  · rw [pow7_succ]
    have e := h.sum
    generalize 2 ^ (7 * k) = M at *
    have hy2 : y = 128 * (y / 128) + y % 128 := by omega
    rw [e]
    conv => lhs; rw [hy2]
    rw [Nat.add_mul]
    have : 128 * (y / 128) * M = y / 128 * (128 * M) := by rw [Nat.mul_comm 128, Nat.mul_assoc]
    omega
  · rw [pow7_succ]
    have : y % 128 ≤ 127 := by omega
    generalize 2 ^ (7 * k) = M at *
    have h2 : y % 128 * M ≤ 127 * M := Nat.mul_le_mul_right _ this
    omega
  · rw [h.len, Lib.uvarint_big hy, List.length_cons]; omega

theorem UvAt.head {x : Nat} {q post : List UInt8} {p k y acc : Nat} (h : UvAt x q post p k y acc) : p + k < q.length ∧ (q.getD (p + k) 0).toNat = (if y < 128 then y else y % 128 + 128) := by
  have hr := h.rest
  have hne : q.drop (p + k) ≠ [] := by
    rw [hr]; intro e
    have h1 := congrArg List.length e
    have h2 := Lib.uvarint_pos y
    rw [List.length_append, List.length_nil] at h1
    omega
  have hlt : p + k < q.length := by
    rcases Nat.lt_or_ge (p + k) q.length with h | h
    · exact h
    · exact absurd (List.drop_of_length_le h) hne
  refine ⟨hlt, ?_⟩
  have e : (q.drop (p + k)).getD 0 0 = q.getD (p + k) 0 := by simp [List.getD]
  rw [← e, hr]
  by_cases hy : y < 128
  · rw [Lib.uvarint_small hy, if_pos hy]
    show (y.toUInt8).toNat = y
    exact Lib.toUInt8_toNat (by omega)
  · rw [Lib.uvarint_big (by omega), if_neg hy]
    show ((y % 128 + 128).toUInt8).toNat = _
    exact Lib.toUInt8_toNat (by omega)

theorem UvAt.bounds {x : Nat} {q post : List UInt8} {p k y acc : Nat} (h : UvAt x q post p k y acc) (hx : x < 18446744073709551616) : (128 ≤ y → k ≤ 8) ∧ (k = 9 → y ≤ 1) := by
  have e := h.sum
  constructor
  · intro hy
    rcases Nat.lt_or_ge 8 k with hk | hk
    · exfalso
      have h1 : 2 ^ 63 ≤ 2 ^ (7 * k) := Nat.pow_le_pow_right (by decide) (by omega)
      have h2 : 128 * 2 ^ 63 ≤ y * 2 ^ (7 * k) := Nat.mul_le_mul hy h1
      omega
    · exact hk
  · rintro rfl
    have h1 : y * 2 ^ (7 * 9) ≤ x := by omega
    have : (2 : Nat) ^ (7 * 9) = 9223372036854775808 := by decide
    rw [this] at h1
    omega

set_option maxHeartbeats 1000000 in
set_option maxRecDepth 100000 in
theorem f18_any (g n c p x : Nat) (q post : List UInt8) (w : World) (hx : x < 18446744073709551616) (hq : q.length = n) (hn : n ≤ 1099511627776) (hc : ∀ j, j < n → w.cell? ⟨g, j, none⟩ = some (.int .u8 (q.getD j 0).toNat)) (hr : q.drop p = Lib.uvarint x ++ post) :
    Calls Try.prog 18 #[.slice (some ⟨g, 0, none⟩) n c, .int .i64 p] w fun e w' => e = .returned (.tuple #[.int .u64 x, .int .i64 ((p : Int) + (Lib.uvarint x).length), .bool true]) ∧ w' = w := by
  have HC : Hid (∀ j, j < n → w.cell? ⟨g, j, none⟩ = some (.int .u8 (q.getD j 0).toNat)) := hc
  have HQ : Hid (q.length = n) := hq
  have H0 : Hid (UvAt x q post p 0 x 0) := ⟨hr, by simp, by simp, by simp, .inl rfl⟩
  generalize hL : (Lib.uvarint x).length = L
  have HL : Hid ((Lib.uvarint x).length = L) := hL
  clear hc hq hr hL
  go_enter Try.func18, Try.ntmps18
  go_wp2
  go_loop [1, 7, 8, 9] (fun s1 s7 s8 s9 => ∃ k y acc : Nat, s1 = .int .i64 ((p : Int) + k) ∧ s7 = .int .u64 acc ∧ s8 = .int .u64 (7 * (k : Int)) ∧ s9 = .int .i64 k ∧ k ≤ 9 ∧ Hid (UvAt x q post p k y acc)) (fun s1 s7 s8 s9 => 10 - (intOf s9).toNat)
  case atStart => exact ⟨0, x, 0, by simp, rfl, rfl, rfl, by omega, H0⟩
  case round =>
    obtain ⟨k, y, acc, rfl, rfl, rfl, rfl, hk, HU⟩ := hrel
    obtain ⟨hlt, hbyte⟩ := HU.out.head
    obtain ⟨hb8, hb9⟩ := HU.out.bounds hx
    rw [HQ.out] at hlt
    have c1 := HC.out (p + k) hlt
    rw [hbyte] at c1
    clear hbyte
    by_cases hy : y < 128
    · rw [if_pos hy] at c1
      have hy0 := HU.out.pos
      have HOR : Hid (bits .or .u64 (acc : Int) (IntKind.u64.wrap ((y : Int) * 2 ^ (7 * k))) = (x : Int)) := by
        show _ = _
        rw [or_high acc y k HU.out.low (by have := HU.out.sum; omega), ← HU.out.sum]
      have HLEN : Hid (L = k + 1) := by
        show _ = _
        rw [← HL.out, HU.out.len, Lib.uvarint_small hy]; rfl
      by_cases h9 : k = 9
      · have hy1 : y = 1 := by
          have := hb9 h9
          omega
        subst h9
        subst hy1
        have HO9 : Hid (bits .or .u64 (acc : Int) 9223372036854775808 = (x : Int)) := HOR
        clear HOR hb8 hb9 hy0
        go_wp2
        go_ret3
        refine ⟨?_, rfl⟩
        rw [HLEN.out, ← HO9.out, show (p : Int) + ((9 + 1 : Nat) : Int) = (p : Int) + 9 + 1 by omega]
        rfl
      · have t9 : ((k : Int) == 9) = false := by simp; omega
        by_cases h0 : k = 0
        · have t0 : k ≤ 0 := by omega
          clear hb8 hb9 hy0 h0 h9
          go_wp2
          go_ret3
          refine ⟨?_, rfl⟩
          rw [HLEN.out, ← HOR.out, show (p : Int) + ((k + 1 : Nat) : Int) = (p : Int) + k + 1 by omega]
          rfl
        · have t0 : 0 < k := by omega
          have t1 : ((y : Int) == 0) = false := by simp; omega
          clear hb8 hb9 hy0 h0 h9
          go_wp2
          go_ret3
          refine ⟨?_, rfl⟩
          rw [HLEN.out, ← HOR.out, show (p : Int) + ((k + 1 : Nat) : Int) = (p : Int) + k + 1 by omega]
          rfl
    · rw [if_neg hy] at c1
      have hk8 := hb8 (by omega)
      have HN : Hid (UvAt x q post p (k + 1) (y / 128) (acc + y % 128 * 2 ^ (7 * k))) := HU.out.next (by omega)
      obtain ⟨b, hb⟩ : ∃ b, y % 128 + 128 = b := ⟨_, rfl⟩
      rw [hb] at c1
      have hb1 : 128 ≤ b := by omega
      have hb2 : b < 256 := by omega
      have HB : Hid (b % 128 = y % 128) := by show _ = _; omega
      have HV : Hid (bits .or .u64 (acc : Int) (IntKind.u64.wrap (IntKind.u64.wrap (bits .and .u8 (b : Int) 127) * 2 ^ (7 * k))) = ((acc + y % 128 * 2 ^ (7 * k) : Nat) : Int)) := by
        show _ = _
        have h1 := HN.out.sum
        have h2 : acc + y % 128 * 2 ^ (7 * k) ≤ x := by omega
        rw [and_low b hb2, HB.out, or_high acc (y % 128) k HU.out.low (by omega)]
      clear hb hb8 hb9
      go_wp2
      go_roundw
      case rel => exact ⟨k + 1, y / 128, acc + y % 128 * 2 ^ (7 * k), by go_num, by rw [HV.out], by go_num, by go_num, by omega, HN⟩
      case measure => simp [intOf]; omega
end Go.Proofs.Qxb6614913a
