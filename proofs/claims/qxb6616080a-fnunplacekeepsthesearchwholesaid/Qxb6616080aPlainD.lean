/- RANGES that follow from 'Holds'. -/
import Derived.Test.Qxb6616080aPlainC
namespace Go.Proofs.Qxb6616080a
set_option linter.unusedVariables false
set_option linter.unusedSimpArgs false

theorem LevOk.width {ll : Nat → Nat} : ∀ {fuel l m : Nat} {p : Nat → Bool} {f : Nat → Nat → Nat}, LevOk ll fuel l m p f → (0 < fuel → m ≤ 64 * ll l) ∧ ∀ j, j + 1 < fuel → ll (l + j) ≤ 64 * ll (l + j + 1)
  | 0, _, _, _, _, _ => ⟨fun h => by omega, fun j h => by omega⟩
  | fuel + 1, l, m, p, f, ⟨h1, _, h3⟩ => by
    have ih := LevOk.width h3
    refine ⟨fun _ => h1, fun j hj => ?_⟩
    cases j with
    | zero => exact ih.1 (by omega)
    | succ j =>
      have := ih.2 j (by omega)
      have e : l + (j + 1) = l + 1 + j := by omega
      rw [e]; exact this

theorem tot_range {f : Nat → Int} {b : Int} : ∀ {n : Nat}, (∀ j, j < n → 0 ≤ f j ∧ f j ≤ b) → 0 ≤ tot n f ∧ tot n f ≤ n * b
  | 0, _ => by simp [tot]
  | n + 1, h => by
    have ih := tot_range (n := n) (fun j hj => h j (by omega))
    have hn := h n (by omega)
    simp only [tot]
    have e : ((n + 1 : Nat) : Int) * b = n * b + b := by rw [Int.natCast_add, Int.add_mul]; simp
    rw [e]
    omega

section
variable {E : Env} {D : Dyn} {mix : Nat → Nat}
theorem Holds.of_range (h : Holds E D mix) {c : Nat} (hc : c < E.nc) {k : Int} (hk : 0 ≤ k) : -1 ≤ E.unreadOf c k ∧ E.unreadOf c k < E.nv ∨ E.nv = 0 ∧ E.unreadOf c k = -1 := by
  unfold Env.unreadOf
  split
  next hx =>
    have hch := h.chr c hc k.toNat (by omega)
    have hv := h.vs (E.op c k.toNat) (by unfold Env.op; omega)
    exact .inl (by omega)
  next => 
    by_cases h0 : E.nv = 0
    · exact .inr ⟨h0, rfl⟩
    · exact .inl (by omega)
theorem Holds.of_range' (h : Holds E D mix) {c : Nat} (hc : c < E.nc) {k : Int} (hk : 0 ≤ k) : -1 ≤ E.unreadOf c k ∧ E.unreadOf c k < E.nv := by
  rcases h.of_range hc hk with h | ⟨h1, h2⟩
  · exact h
  · rw [h2, h1]; simp
theorem ListsOk.range {nc nv : Nat} {first nx pv of : Nat → Int} (h : ListsOk nc nv first nx pv of) {c : Nat} (hc : c < nc) (h0 : 0 ≤ of c) (h1 : of c < nv) : (-1 ≤ pv c ∧ pv c < nc) ∧ (-1 ≤ nx c ∧ nx c < nc) := by
  obtain ⟨L, hL⟩ := h
  obtain ⟨v, hv⟩ := Int.eq_ofNat_of_zero_le h0
  have hvn : v < nv := by omega
  have hm := hL.all v hvn c hc hv
  obtain ⟨A, B, hAB⟩ := List.append_of_mem hm
  have hs := hL.seg v hvn
  rw [hAB] at hs
  have hmem := hL.mem v hvn
  rw [hAB] at hmem
  constructor
  · rcases hs.prev with ⟨h, _⟩ | ⟨a, ha, h⟩
    · omega
    · have := (hmem a (by simp [ha])).1; omega
  · rcases hs.tail.cur with ⟨h, _⟩ | ⟨c', L', hL', h⟩
    · omega
    · have := (hmem c' (by rw [hL']; simp)).1; omega
theorem ListsOk.first {nc nv : Nat} {K : Links} (h : ListsOk nc nv K.first K.nx K.pv K.of) {c : Nat} (hc : c < nc) (ho : K.of c < nv) {v : Nat} (hv : v < nv) : -1 ≤ (takeOut K c).first v ∧ (takeOut K c).first v < nc := by
  obtain ⟨L, hL⟩ := h
  obtain ⟨L', hL'⟩ := hL.out hc ho
  rcases (hL'.seg v hv).cur with ⟨h, _⟩ | ⟨c', L'', he, h⟩
  · omega
  · have := (hL'.mem v hv c' (by rw [he]; simp)).1; omega
end
end Go.Proofs.Qxb6616080a
