/- A CALL ENTERED, ITS FRAME AS A FUNCTION; the return. -/
import Derived.Test.Qxb6616080aBit
namespace Go.Proofs.Qxb6616080a
open Go.RowKit
set_option linter.unusedVariables false
set_option linter.unusedSimpArgs false

theorem enter_f {P : Program} {g : FuncId} {fn : Func} {c : Code} {args : Array Value} {w : World} {R : Ending → World → Prop} {N : Nat} (hf : P.funcs[g]? = some fn) (hb : fn.body = some c) (hN : fn.ntmps = N) (hk : args.size ≤ N)
    (h : ∀ a : Act, a.defers = [] → (∀ j, j < N → a.tmps[j]? = some (args.getD j undef)) → c.wp P (bodyPost P fn R) a w) : Calls P g args w R := by
  refine calls_of_wp hf hb (h _ rfl fun j hj => ?_)
  rw [hN]
  by_cases hja : j < args.size
  · rw [Array.getElem?_append_left hja]
    simp [hja]
  · rw [Array.getElem?_append_right (by omega), Array.getElem?_replicate, if_pos (by omega)]
    simp only [Array.getD_eq_getD_getElem?]
    rw [Array.getElem?_eq_none (by omega)]
    rfl

theorem ret_f {P : Program} {fn : Func} {R : Ending → World → Prop} {a : Act} {w : World} {N s : Nat} {f : Nat → Value} (hres : fn.results = #[.tmp s]) (hD : a.defers = []) (hV : ∀ j, j < N → a.tmps[j]? = some (f j)) (hs : s < N) (h : R (.returned (f s)) w) : bodyPost P fn R .ret a w := by
  refine bodyPost_ret (results_tmp hres _ _ _) hD ?_
  have := hV s hs
  simp [this]
  exact h
theorem end_f {P : Program} {fn : Func} {R : Ending → World → Prop} {a : Act} {w : World} (hres : fn.results = #[]) (hD : a.defers = []) (h : R (.returned (.tuple #[])) w) : bodyPost P fn R .normal a w :=
  bodyPost_end (results_none hres _ _ _) hD h
theorem end_r {P : Program} {fn : Func} {R : Ending → World → Prop} {a : Act} {w : World} (hres : fn.results = #[]) (hD : a.defers = []) (h : R (.returned (.tuple #[])) w) : bodyPost P fn R .ret a w :=
  bodyPost_ret (results_none hres _ _ _) hD h

/-! The mixing function. -/
def zmixI (x : Int) : Int :=
  let x1 := IntKind.u64.wrap (bits .xor .u64 x (x / 1073741824) * 13787848793156543929)
  let x2 := IntKind.u64.wrap (bits .xor .u64 x1 (x1 / 134217728) * 10723151780598845931)
  bits .xor .u64 x2 (x2 / 2147483648)
def zmix (x : Nat) : Nat := (zmixI (x : Int)).toNat
theorem wrapu_range (x : Int) : 0 ≤ IntKind.u64.wrap x ∧ IntKind.u64.wrap x < 2 ^ 64 := by
  simp [IntKind.wrap, IntKind.bits, IntKind.signed]
  omega
theorem bits_range (op : BinOp) (x y : Int) : 0 ≤ bits op .u64 x y ∧ bits op .u64 x y < 2 ^ 64 := by
  unfold bits
  exact wrapu_range _
theorem zmixI_nat (x : Nat) : zmixI (x : Int) = (zmix x : Int) := by
  unfold zmix
  have := (bits_range .xor (IntKind.u64.wrap (bits .xor .u64 (IntKind.u64.wrap (bits .xor .u64 (x : Int) ((x : Int) / 1073741824) * 13787848793156543929)) (IntKind.u64.wrap (bits .xor .u64 (x : Int) ((x : Int) / 1073741824) * 13787848793156543929) / 134217728) * 10723151780598845931))
    (IntKind.u64.wrap (bits .xor .u64 (IntKind.u64.wrap (bits .xor .u64 (x : Int) ((x : Int) / 1073741824) * 13787848793156543929)) (IntKind.u64.wrap (bits .xor .u64 (x : Int) ((x : Int) / 1073741824) * 13787848793156543929) / 134217728) * 10723151780598845931) / 2147483648)).1
  have h0 : 0 ≤ zmixI (x : Int) := this
  omega
theorem zmix_lt (x : Nat) : zmix x < 2 ^ 64 := by
  have h1 := zmixI_nat x
  have h2 : zmixI (x : Int) < 2 ^ 64 := (bits_range .xor _ _).2
  omega

theorem f27_to (x : Nat) (w : World) : Calls Try.prog 27 #[.int .u64 (x : Nat)] w fun e w' => e = .returned (.int .u64 (zmix x : Nat)) ∧ w' = w := by
  obtain ⟨x1, h1⟩ : ∃ x1, IntKind.u64.wrap (bits .xor .u64 (x : Int) ((x : Int) / 1073741824) * 13787848793156543929) = x1 := ⟨_, rfl⟩
  obtain ⟨x2, h2⟩ : ∃ x2, IntKind.u64.wrap (bits .xor .u64 x1 (x1 / 134217728) * 10723151780598845931) = x2 := ⟨_, rfl⟩
  have h3 : bits .xor .u64 x2 (x2 / 2147483648) = (zmix x : Int) := by rw [← zmixI_nat]; unfold zmixI; simp only [h1, h2]
  have hx1 : 0 ≤ x1 := h1 ▸ (wrapu_range _).1
  have hx2 : 0 ≤ x2 := h2 ▸ (wrapu_range _).1
  go_enter Try.func27, Try.ntmps27
  go_wp2
  go_ret
  exact ⟨rfl, rfl⟩

theorem hold_lt {v m : Nat} (hv : v < 4096) (hm : m ≤ 4096) : (m ||| 9223372036854775808) < 2 ^ 64 ∧ v * 4294967296 < 2 ^ 64 ∧ ((m ||| 9223372036854775808) ||| v * 4294967296) < 2 ^ 64 := by
  have h1 : (m ||| 9223372036854775808) < 2 ^ 64 := Nat.or_lt_two_pow (by omega) (by decide)
  have h2 : v * 4294967296 < 2 ^ 64 := by omega
  exact ⟨h1, h2, Nat.or_lt_two_pow h1 h2⟩
theorem holdNum_lt {v : Nat} {z : Int} (hv : v < 4096) (hz : z < 4096) : holdNum v z < 2 ^ 64 := (hold_lt hv (by omega : (z + 1).toNat ≤ 4096)).2.2

theorem f28_to (v : Nat) (z : Int) (w : World) (hv : v < 4096) (hz : -1 ≤ z) (hz2 : z < 4096) : Calls Try.prog 28 #[.int .i32 (v : Nat), .int .i32 z] w fun e w' => e = .returned (.int .u64 (holdNum v z : Nat)) ∧ w' = w := by
  obtain ⟨m, hm⟩ := Int.eq_ofNat_of_zero_le (show 0 ≤ z + 1 by omega)
  have hl := hold_lt hv (show m ≤ 4096 by omega)
  have h0 := bits_or (x := m) (y := 9223372036854775808) (by omega) (by decide)
  obtain ⟨q, hq⟩ : ∃ q, (m ||| 9223372036854775808) = q := ⟨_, rfl⟩
  obtain ⟨k, hk⟩ : ∃ k, holdNum v z = k := ⟨_, rfl⟩
  have hk2 : q ||| v * 4294967296 = k := by rw [← hk, ← hq]; unfold holdNum; rw [hm, Int.toNat_natCast]
  rw [hq] at h0 hl
  have h1 : bits .or .u64 (z + 1) 9223372036854775808 = (q : Int) := by rw [hm]; exact h0
  have h2 : bits .or .u64 (q : Int) ((v : Int) * 4294967296) = (k : Int) := by
    have e : (v : Int) * 4294967296 = ((v * 4294967296 : Nat) : Int) := by omega
    rw [e, bits_or hl.1 hl.2.1, hk2]
  rw [hk]
  clear hm hl h0 hq hk hk2
  go_enter Try.func28, Try.ntmps28
  go_wp2
  go_ret
  exact ⟨rfl, rfl⟩

theorem f37_place (v : Int) (i : Nat) (w : World) (hi : i < 4096) : Calls Try.prog 37 #[.agg #[.bool false, .int .i32 v, .int .i32 (i : Nat)]] w fun e w' => e = .returned (.int .u64 ((i + 1 : Nat) : Int)) ∧ Below w.heap.size w w' := by
  go_enter Try.func37, Try.ntmps37
  go_wp2
  go_ret
  exact ⟨by simp, (Below.refl _ _).alloc (Nat.le_refl _) _⟩
theorem f37_hold (v : Nat) (z : Int) (w : World) (hv : v < 4096) (hz : -1 ≤ z) (hz2 : z < 4096) : Calls Try.prog 37 #[.agg #[.bool true, .int .i32 (v : Nat), .int .i32 z]] w fun e w' => e = .returned (.int .u64 (holdNum v z : Nat)) ∧ Below w.heap.size w w' := by
  obtain ⟨m, hm⟩ := Int.eq_ofNat_of_zero_le (show 0 ≤ z + 1 by omega)
  have hl := hold_lt hv (show m ≤ 4096 by omega)
  have h0 := bits_or (x := 9223372036854775808) (y := v * 4294967296) (by decide) hl.2.1
  have hq4 : 9223372036854775808 ||| v * 4294967296 < 2 ^ 64 := Nat.or_lt_two_pow (by decide) hl.2.1
  obtain ⟨q, hq⟩ : ∃ q, (9223372036854775808 ||| v * 4294967296) = q := ⟨_, rfl⟩
  obtain ⟨k, hk⟩ : ∃ k, holdNum v z = k := ⟨_, rfl⟩
  have hk2 : m ||| q = k := by rw [← hk, ← hq]; unfold holdNum; rw [hm, Int.toNat_natCast, Nat.or_assoc]
  rw [hq] at h0 hq4
  have h1 : bits .or .u64 9223372036854775808 ((v : Int) * 4294967296) = (q : Int) := by
    have e : (v : Int) * 4294967296 = ((v * 4294967296 : Nat) : Int) := by omega
    rw [e]; exact h0
  have h2 : bits .or .u64 (z + 1) (q : Int) = (k : Int) := by
    rw [hm, bits_or (by omega) hq4, hk2]
  rw [hk]
  clear hm hl h0 hq hk hk2 hq4
  go_enter Try.func37, Try.ntmps37
  go_wp2
  go_ret
  exact ⟨rfl, (Below.refl _ _).alloc (Nat.le_refl _) _⟩
end Go.Proofs.Qxb6616080a
