import Derived.Test.Qxb6614913aWalkH
namespace Go.Proofs.Qxb6614913a
open Go.RowKit
set_option linter.unusedVariables false
set_option linter.unusedSimpArgs false

set_option maxHeartbeats 400000 in
set_option maxRecDepth 100000 in
theorem f14_any (g n c p x : Nat) (q post : List UInt8) (w : World) (hx : x < 18446744073709551616) (hq : q.length = n) (hn : n ≤ 1099511627776) (hc : ∀ j, j < n → w.cell? ⟨g, j, none⟩ = some (.int .u8 (q.getD j 0).toNat)) (hr : q.drop p = Lib.uvarint x ++ post) :
    Calls Try.prog 14 #[.slice (some ⟨g, 0, none⟩) n c, .int .i64 p, .int .u64 x] w fun e w' => e = .returned (.tuple #[.int .i64 ((p : Int) + (Lib.uvarint x).length), .bool true]) ∧ w' = w := by
  have h18 := f18_any g n c p x q post w hx hq hn hc hr
  clear hc hr hq
  generalize (Lib.uvarint x).length = L at h18 ⊢
  go_enter Try.func14, Try.ntmps14
  go_wp2_with (go_at_call 18; refine h18.mono ?_; rintro e w' ⟨rfl, rfl⟩)
  go_ret2
  exact ⟨rfl, rfl⟩

/-- f14, ready to be offered. -/
theorem f14_to (g n c : Nat) (p x r : Int) (q post : List UInt8) (w : World) (hp : 0 ≤ p) (hx0 : 0 ≤ x) (hx : x < 18446744073709551616) (hq : q.length = n) (hn : n ≤ 1099511627776) (hc : ∀ j, j < n → w.cell? ⟨g, j, none⟩ = some (.int .u8 (q.getD j 0).toNat)) (hr : q.drop p.toNat = uv x ++ post) (hrr : p + (uv x).length = r) :
    Calls Try.prog 14 #[.slice (some ⟨g, 0, none⟩) n c, .int .i64 p, .int .u64 x] w fun e w' => e = .returned (.tuple #[.int .i64 r, .bool true]) ∧ w' = w := by
  obtain ⟨p', rfl⟩ := Int.eq_ofNat_of_zero_le hp
  obtain ⟨x', rfl⟩ := Int.eq_ofNat_of_zero_le hx0
  have := f14_any g n c p' x' q post w (by omega) hq hn hc hr
  rw [← hrr]
  exact this

theorem drop_pre (q pre a rest : List UInt8) (p : Nat) (h : q.drop p = a ++ rest) : q.drop (p + a.length) = rest := by
  rw [← List.drop_drop, h, List.drop_left]

set_option maxHeartbeats 1000000 in
set_option maxRecDepth 100000 in
theorem f10_any (g n c p : Nat) (view nn inst cnt : Int) (q post : List UInt8) (w : World) (r : Int)
    (a0 : 0 ≤ view) (a1 : view < 18446744073709551616) (b0 : 0 ≤ nn) (b1 : nn < 18446744073709551616) (c0 : 0 ≤ inst) (c1 : inst < 18446744073709551616) (d0 : 0 ≤ cnt) (d1 : cnt < 18446744073709551616)
    (hq : q.length = n) (hn : n ≤ 1099511627776) (hc : ∀ j, j < n → w.cell? ⟨g, j, none⟩ = some (.int .u8 (q.getD j 0).toNat)) (hr : q.drop p = [3] ++ (uv view ++ (uv nn ++ (uv inst ++ (uv cnt ++ post)))))
    (hrr : (p : Int) + 1 + (uv view).length + (uv nn).length + (uv inst).length + (uv cnt).length = r) :
    Calls Try.prog 10 #[.slice (some ⟨g, 0, none⟩) n c, .int .i64 p, .int .u64 view, .int .u64 nn, .int .u64 inst, .int .u64 cnt] w fun e w' => e = .returned (.tuple #[.int .i64 r, .bool true]) ∧ w' = w := by
  have e1 := drop_pre q [] [3] _ p hr
  have e2 := drop_pre q [] _ _ _ e1
  have e3 := drop_pre q [] _ _ _ e2
  have e4 := drop_pre q [] _ _ _ e3
  have lv := uv_len view a1
  have ln := uv_len nn b1
  have li := uv_len inst c1
  have lc := uv_len cnt d1
  have hlt : p < n := by
    rcases Nat.lt_or_ge p n with h | h
    · exact h
    · rw [List.drop_of_length_le (by omega)] at hr; simp at hr
  have hb := hc p hlt
  have hb3 : q.getD p 0 = 3 := by
    have : (q.drop p).getD 0 0 = q.getD p 0 := by simp [List.getD]
    rw [← this, hr]; rfl
  rw [hb3] at hb
  have hb' : w.cell? ⟨g, p, none⟩ = some (.int .u8 3) := hb
  generalize hl1 : (uv view).length = l1 at lv e2 e3 e4 hrr
  generalize hl2 : (uv nn).length = l2 at ln e3 e4 hrr
  generalize hl3 : (uv inst).length = l3 at li e4 hrr
  generalize hl4 : (uv cnt).length = l4 at lc hrr
  have lone : ([3] : List UInt8).length = 1 := rfl
  rw [lone] at e1 e2 e3 e4
  have k1 : ∀ p1 r1 : Int, p1 = (p : Int) + 1 → p1 + l1 = r1 → Calls Try.prog 14 #[.slice (some ⟨g, 0, none⟩) n c, .int .i64 p1, .int .u64 view] w fun e w' => e = .returned (.tuple #[.int .i64 r1, .bool true]) ∧ w' = w := by
    intro p1 r1 hp1 h
    have t : p1.toNat = p + 1 := by omega
    exact f14_to g n c p1 view r1 q (uv nn ++ (uv inst ++ (uv cnt ++ post))) w (by omega) a0 a1 hq hn hc (by rw [t]; exact e1) (by rw [hl1]; exact h)
  have k2 : ∀ p1 r1 : Int, p1 = (p : Int) + 1 + l1 → p1 + l2 = r1 → Calls Try.prog 14 #[.slice (some ⟨g, 0, none⟩) n c, .int .i64 p1, .int .u64 nn] w fun e w' => e = .returned (.tuple #[.int .i64 r1, .bool true]) ∧ w' = w := by
    intro p1 r1 hp1 h
    have t : p1.toNat = p + 1 + l1 := by omega
    exact f14_to g n c p1 nn r1 q (uv inst ++ (uv cnt ++ post)) w (by omega) b0 b1 hq hn hc (by rw [t]; exact e2) (by rw [hl2]; exact h)
  have k3 : ∀ p1 r1 : Int, p1 = (p : Int) + 1 + l1 + l2 → p1 + l3 = r1 → Calls Try.prog 14 #[.slice (some ⟨g, 0, none⟩) n c, .int .i64 p1, .int .u64 inst] w fun e w' => e = .returned (.tuple #[.int .i64 r1, .bool true]) ∧ w' = w := by
    intro p1 r1 hp1 h
    have t : p1.toNat = p + 1 + l1 + l2 := by omega
    exact f14_to g n c p1 inst r1 q (uv cnt ++ post) w (by omega) c0 c1 hq hn hc (by rw [t]; exact e3) (by rw [hl3]; exact h)
  have k4 : ∀ p1 r1 : Int, p1 = (p : Int) + 1 + l1 + l2 + l3 → p1 + l4 = r1 → Calls Try.prog 14 #[.slice (some ⟨g, 0, none⟩) n c, .int .i64 p1, .int .u64 cnt] w fun e w' => e = .returned (.tuple #[.int .i64 r1, .bool true]) ∧ w' = w := by
    intro p1 r1 hp1 h
    have t : p1.toNat = p + 1 + l1 + l2 + l3 := by omega
    exact f14_to g n c p1 cnt r1 q (post) w (by omega) d0 d1 hq hn hc (by rw [t]; exact e4) (by rw [hl4]; exact h)
  have K1 : Hid _ := k1
  have K2 : Hid _ := k2
  have K3 : Hid _ := k3
  have K4 : Hid _ := k4
  have HRR : Hid ((p : Int) + 1 + l1 + l2 + l3 + l4 = r) := hrr
  clear k1 k2 k3 k4 hc hr hq hb hb3 e1 e2 e3 e4 hl1 hl2 hl3 hl4 lone hrr
  go_enter Try.func10, Try.ntmps10
  go_wp2_with fail
  refine (K1.out _ _ rfl rfl).mono ?_
  rintro e w1 ⟨rfl, rfl⟩
  go_wp2_with fail
  refine (K2.out _ _ rfl rfl).mono ?_
  rintro e w1 ⟨rfl, rfl⟩
  go_wp2_with fail
  refine (K3.out _ _ rfl rfl).mono ?_
  rintro e w1 ⟨rfl, rfl⟩
  go_wp2_with fail
  refine (K4.out _ _ rfl rfl).mono ?_
  rintro e w1 ⟨rfl, rfl⟩
  go_wp2
  go_ret2
  exact ⟨by rw [← HRR.out]; rfl, rfl⟩
end Go.Proofs.Qxb6614913a
