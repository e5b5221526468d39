/- WHAT 'unplace' LEAVES; the end of law 7; ranges. -/
import Derived.Test.Qxb6616080aPlainD
import Derived.Test.Qxb6616080aMem
namespace Go.Proofs.Qxb6616080a
set_option linter.unusedVariables false
set_option linter.unusedSimpArgs false

section
variable {E : Env} {D : Dyn} {mix : Nat → Nat}
theorem unplace_fields (c : Nat) (p : Int) : (unplace E D mix c p).next = upd D.next c (D.next c - 1) ∧ (unplace E D mix c p).K = moveTo D.K c (E.unreadOf c (D.next c - 1)) ∧ (unplace E D mix c p).current = (if E.wr (E.op c (D.next c - 1).toNat) then upd D.current (E.vv (E.op c (D.next c - 1).toNat)).toNat p else D.current) := by
  unfold unplace
  simp only
  split
  · rw [backWrite_fields]; exact ⟨rfl, rfl, rfl⟩
  · rw [backRead_fields]; exact ⟨rfl, rfl, rfl⟩

/-- Links in range. -/
def Kr (E : Env) (K : Links) : Prop := ∀ c, c < E.nc → i32 (K.nx c) ∧ i32 (K.pv c)

theorem Kr.move {K : Links} (h : Kr E K) {c : Nat} (hc : c < E.nc) (hnc : E.nc ≤ 4096) {v : Int} (hg : 0 ≤ v → -1 ≤ (takeOut K c).first v.toNat ∧ (takeOut K c).first v.toNat < E.nc) : Kr E (moveTo K c v) := by
  unfold moveTo
  split
  · exact h
  · have ht : Kr E (takeOut K c) := by
      unfold takeOut
      split
      · intro x hx
        have hx' := h x hx
        have hc' := h c hc
        constructor
        · show i32 (outN K.nx (K.pv c) (K.nx c) x)
          unfold outN
          split
          · unfold upd; split
            · exact hc'.1
            · exact hx'.1
          · exact hx'.1
        · show i32 (outN K.pv (K.nx c) (K.pv c) x)
          unfold outN
          split
          · unfold upd; split
            · exact hc'.2
            · exact hx'.2
          · exact hx'.2
      · exact h
    unfold putIn
    split
    next hv =>
      intro x hx
      have hx' := ht x hx
      have hg' := hg hv
      constructor
      · show i32 (upd (takeOut K c).nx c ((takeOut K c).first v.toNat) x)
        unfold upd
        split
        · unfold i32; omega
        · exact hx'.1
      · show i32 (outN (upd (takeOut K c).pv c (-1)) ((takeOut K c).first v.toNat) c x)
        unfold outN
        split
        · unfold upd
          split
          · unfold i32; omega
          · split
            · unfold i32; omega
            · exact hx'.2
        · unfold upd
          split
          · unfold i32; omega
          · exact hx'.2
    · exact ht

theorem Kr.unplace (h : Kr E D.K) (hH : Holds E D mix) {c : Nat} (hc : c < E.nc) (hnc : E.nc ≤ 4096) (h1 : 1 ≤ D.next c) (p : Int) : Kr E (unplace E D mix c p).K := by
  rw [(unplace_fields c p).2.1]
  have hor : D.K.of c < E.nv := by rw [hH.uo c hc]; exact (hH.of_range' hc (by omega)).2
  exact h.move hc hnc (fun hv => hH.ul.first hc hor (by have := hH.of_range' hc (k := D.next c - 1) (by omega); omega))

theorem xorOf_zero' {f : Nat → Nat} : ∀ {n : Nat}, (∀ j, j < n → f j = 0) → xorOf n f = 0
  | 0, _ => rfl
  | n + 1, h => by simp only [xorOf]; rw [xorOf_zero' (fun j hj => h j (by omega)), h n (by omega)]; rfl
theorem tot_congr' {f g : Nat → Int} : ∀ {n : Nat}, (∀ j, j < n → f j = g j) → tot n f = tot n g
  | 0, _ => rfl
  | n + 1, h => by simp only [tot]; rw [tot_congr' (fun j hj => h j (by omega)), h n (by omega)]

/-- Nothing placed: the starting state. -/
theorem Holds.zero (h : Holds E D mix) (hn : ∀ c, c < E.nc → D.next c = 0) : (∀ v, v < E.nv → D.current v = -1) ∧ D.hash = 0 ∧ D.toPlace = tot E.nc (fun c => (E.cl c : Int)) := by
  have hpl : ∀ i, i < E.n → D.placed i = false := fun i hi => by
    cases hp : D.placed i with
    | false => rfl
    | true =>
      obtain ⟨c, k, hc, hk, _, hlt⟩ := (h.pl i hi).1 hp
      rw [hn c hc] at hlt
      omega
  have hcu : ∀ v, v < E.nv → D.current v = -1 := fun v hv => by
    by_cases e : D.current v = -1
    · exact e
    · obtain ⟨⟨h0, h1⟩, _, _, hp⟩ := h.cu v hv e
      rw [hpl _ (by omega)] at hp
      cases hp
  refine ⟨hcu, ?_, ?_⟩
  · rw [h.ha]
    unfold hashOf
    rw [xorOf_zero' (fun i hi => by unfold hPlaced; rw [hpl i hi]; rfl), xorOf_zero' (fun v hv => by unfold hCur; rw [if_pos (hcu v hv)])]
    rfl
  · rw [h.tp]
    exact tot_congr' (fun c hc => by rw [hn c hc]; omega)
theorem Holds.first (h : Holds E D mix) {v : Nat} (hv : v < E.nv) : -1 ≤ D.K.first v ∧ D.K.first v < E.nc := by
  obtain ⟨L, hL⟩ := h.ul
  rcases (hL.seg v hv).cur with ⟨h, _⟩ | ⟨c', L', he, h⟩
  · omega
  · have := (hL.mem v hv c' (by rw [he]; simp)).1; omega
end
end Go.Proofs.Qxb6616080a
