/- THE PLAIN MODEL: linked lists. No Go in sight. -/
import Derived.Test.Qxb6616080aPlainA
namespace Go.Proofs.Qxb6616080a
set_option linter.unusedVariables false

/-! The linked lists. -/
def Seg (nx pv : Nat → Int) : Int → Int → List Nat → Prop
  | _, cur, [] => cur = -1
  | p, cur, c :: L => cur = (c : Int) ∧ pv c = p ∧ Seg nx pv (c : Int) (nx c) L

theorem Seg.congr {nx pv nx' pv' : Nat → Int} : ∀ {L : List Nat} {p cur : Int}, Seg nx pv p cur L → (∀ c ∈ L, nx' c = nx c) → (∀ c ∈ L, pv' c = pv c) → Seg nx' pv' p cur L
  | [], _, _, h, _, _ => h
  | c :: L, p, cur, ⟨h1, h2, h3⟩, hn, hp => by
    refine ⟨h1, by rw [hp c (by simp), h2], ?_⟩
    rw [hn c (by simp)]
    exact Seg.congr h3 (fun x hx => hn x (by simp [hx])) (fun x hx => hp x (by simp [hx]))

theorem Seg.cur {nx pv : Nat → Int} {L : List Nat} {p cur : Int} (h : Seg nx pv p cur L) : cur = -1 ∧ L = [] ∨ ∃ c L', L = c :: L' ∧ cur = (c : Int) := by
  cases L with
  | nil => exact .inl ⟨h, rfl⟩
  | cons c L => exact .inr ⟨c, L, rfl, h.1⟩

/-- What stands before c in the list. -/
theorem Seg.prev {nx pv : Nat → Int} {c : Nat} {B : List Nat} : ∀ {A : List Nat} {p cur : Int}, Seg nx pv p cur (A ++ c :: B) → pv c = p ∧ A = [] ∨ ∃ a ∈ A, pv c = (a : Int)
  | [], _, _, ⟨_, h2, _⟩ => .inl ⟨h2, rfl⟩
  | a :: A, p, cur, ⟨_, _, h3⟩ => by
    rcases Seg.prev h3 with ⟨h, _⟩ | ⟨b, hb, h⟩
    · exact .inr ⟨a, by simp, h⟩
    · exact .inr ⟨b, by simp [hb], h⟩
theorem Seg.tail {nx pv : Nat → Int} {c : Nat} {B : List Nat} : ∀ {A : List Nat} {p cur : Int}, Seg nx pv p cur (A ++ c :: B) → Seg nx pv (c : Int) (nx c) B
  | [], _, _, ⟨_, _, h3⟩ => h3
  | a :: A, p, cur, ⟨_, _, h3⟩ => Seg.tail h3

/-- Taking c out. -/
def outN (nx : Nat → Int) (q m : Int) : Nat → Int := if 0 ≤ q then upd nx q.toNat m else nx
theorem outN_ne {nx : Nat → Int} {q m : Int} {x : Nat} (h : q ≠ (x : Int)) : outN nx q m x = nx x := by
  unfold outN; split
  · exact upd_ne _ _ (by intro e; subst e; omega)
  · rfl
theorem outN_eq {nx : Nat → Int} {q m : Int} {x : Nat} (h : q = (x : Int)) : outN nx q m x = m := by
  unfold outN; rw [if_pos (by omega)]
  subst h; simp [upd]

theorem Seg.remove {nx pv : Nat → Int} {c : Nat} {B : List Nat} : ∀ {A : List Nat} {p cur : Int}, Seg nx pv p cur (A ++ c :: B) → (A ++ c :: B).Nodup → (∀ x ∈ A ++ c :: B, p ≠ (x : Int)) →
    Seg (outN nx (pv c) (nx c)) (outN pv (nx c) (pv c)) p (if A = [] then nx c else cur) (A ++ B)
  | [], p, cur, ⟨h1, h2, h3⟩, hd, hp => by
    simp only [List.nil_append, if_true] at *
    cases B with
    | nil => exact h3
    | cons b B =>
      obtain ⟨k1, k2, k3⟩ := h3
      refine ⟨k1, ?_, ?_⟩
      · rw [outN_eq k1, h2]
      · have hb : pv c ≠ (b : Int) := by rw [h2]; exact hp b (by simp)
        rw [outN_ne hb]
        refine Seg.congr k3 (fun x hx => outN_ne ?_) (fun x hx => outN_ne ?_)
        · rw [h2]; exact hp x (by simp [hx])
        · rw [k1]
          simp only [List.nodup_cons] at hd
          intro e
          have : b = x := by omega
          subst this
          exact hd.2.1 hx
  | a :: A, p, cur, ⟨h1, h2, h3⟩, hd, hp => by
    simp only [List.cons_append, List.nodup_cons] at hd
    have hq := Seg.prev h3
    have ih := Seg.remove h3 hd.2 (fun x hx e => hd.1 (by have : a = x := by omega
                                                          subst this; exact hx))
    have ht := Seg.tail h3
    refine ⟨by simpa using h1, ?_, ?_⟩
    · rw [outN_ne, h2]
      intro e
      rcases ht.cur with ⟨e2, _⟩ | ⟨b, B', rfl, e2⟩
      · omega
      · have : a = b := by omega
        subst this
        exact hd.1 (by simp)
    · by_cases hA : A = []
      · subst hA
        simp only [if_true] at ih
        rcases hq with ⟨hq, _⟩ | ⟨b, hb, _⟩
        · rw [outN_eq hq]; exact ih
        · simp at hb
      · rw [if_neg hA] at ih
        rcases hq with ⟨_, hq⟩ | ⟨b, hb, hq⟩
        · exact absurd hq hA
        · rw [outN_ne (x := a)]
          · exact ih
          · rw [hq]
            intro e
            have : b = a := by omega
            subst this
            exact hd.1 (by simp [hb])

/-- The lists by variable. -/
structure Lists (nc nv : Nat) (first nx pv of : Nat → Int) (L : Nat → List Nat) : Prop where
  seg : ∀ v, v < nv → Seg nx pv (-1) (first v) (L v)
  nodup : ∀ v, v < nv → (L v).Nodup
  mem : ∀ v, v < nv → ∀ c ∈ L v, c < nc ∧ of c = (v : Int)
  all : ∀ v, v < nv → ∀ c, c < nc → of c = (v : Int) → c ∈ L v
def ListsOk (nc nv : Nat) (first nx pv of : Nat → Int) : Prop := ∃ L, Lists nc nv first nx pv of L

structure Links where
  first : Nat → Int
  nx : Nat → Int
  pv : Nat → Int
  of : Nat → Int

/-- Out of the list it stands in. -/
def takeOut (K : Links) (c : Nat) : Links :=
  if 0 ≤ K.of c then
    { first := if 0 ≤ K.pv c then K.first else upd K.first (K.of c).toNat (K.nx c), nx := outN K.nx (K.pv c) (K.nx c), pv := outN K.pv (K.nx c) (K.pv c), of := K.of }
  else K
/-- To the front of v's list. -/
def putIn (K : Links) (c : Nat) (v : Int) : Links :=
  if 0 ≤ v then
    { first := upd K.first v.toNat c, nx := upd K.nx c (K.first v.toNat), pv := outN (upd K.pv c (-1)) (K.first v.toNat) c, of := upd K.of c v }
  else { K with of := upd K.of c v }
def moveTo (K : Links) (c : Nat) (v : Int) : Links := if K.of c = v then K else putIn (takeOut K c) c v

theorem outN_neg {nx : Nat → Int} {q m : Int} (h : ¬ 0 ≤ q) : outN nx q m = nx := if_neg h

/-- c taken out: the lists without c, 'of' to be turned yet. -/
structure Lists' (nc nv : Nat) (K : Links) (c : Nat) (L : Nat → List Nat) : Prop where
  seg : ∀ v, v < nv → Seg K.nx K.pv (-1) (K.first v) (L v)
  nodup : ∀ v, v < nv → (L v).Nodup
  mem : ∀ v, v < nv → ∀ x ∈ L v, x < nc ∧ K.of x = (v : Int) ∧ x ≠ c
  all : ∀ v, v < nv → ∀ x, x < nc → x ≠ c → K.of x = (v : Int) → x ∈ L v

theorem takeOut_of (K : Links) (c : Nat) : (takeOut K c).of = K.of := by unfold takeOut; split <;> rfl

theorem Lists.out {nc nv : Nat} {K : Links} {L : Nat → List Nat} (h : Lists nc nv K.first K.nx K.pv K.of L) {c : Nat} (hc : c < nc) (ho : K.of c < nv) :
    ∃ L', Lists' nc nv (takeOut K c) c L' := by
  unfold takeOut
  by_cases h0 : 0 ≤ K.of c
  · rw [if_pos h0]
    obtain ⟨o, eo⟩ := Int.eq_ofNat_of_zero_le h0
    have hon : o < nv := by omega
    have hm := h.all o hon c hc eo
    obtain ⟨A, B, hAB⟩ := List.append_of_mem hm
    have hs := h.seg o hon
    have hd := h.nodup o hon
    rw [hAB] at hs hd
    have hr := Seg.remove hs hd (fun x _ => by omega)
    have hp := Seg.prev hs
    have hmem := h.mem o hon
    rw [hAB] at hmem
    have hcA : c ∉ A ++ B := by
      have := (List.perm_middle.nodup_iff.1 hd)
      exact (List.nodup_cons.1 this).1
    have hdAB : (A ++ B).Nodup := (List.nodup_cons.1 (List.perm_middle.nodup_iff.1 hd)).2
    have hother : ∀ v, v < nv → v ≠ o → ∀ x ∈ L v, outN K.nx (K.pv c) (K.nx c) x = K.nx x ∧ outN K.pv (K.nx c) (K.pv c) x = K.pv x := by
      intro v hv hvo x hx
      have hx' := (h.mem v hv x hx).2
      refine ⟨outN_ne ?_, outN_ne ?_⟩
      · rcases hp with ⟨e, _⟩ | ⟨a, ha, e⟩
        · omega
        · intro e2
          have : a = x := by omega
          subst this
          have := (hmem a (by simp [ha])).2
          omega
      · rcases (Seg.tail hs).cur with ⟨e, _⟩ | ⟨b, B', rfl, e⟩
        · omega
        · intro e2
          have : b = x := by omega
          subst this
          have := (hmem b (by simp)).2
          omega
    refine ⟨fun v => if v = o then A ++ B else L v, ⟨fun v hv => ?_, fun v hv => ?_, fun v hv x hx => ?_, fun v hv x hx hxc hxv => ?_⟩⟩
    · try dsimp only
      by_cases e : v = o
      · subst e
        rw [if_pos rfl]
        rcases hp with ⟨e1, e2⟩ | ⟨a, ha, e1⟩
        · rw [if_neg (by omega), eo, Int.toNat_natCast, upd_self]
          rw [if_pos e2] at hr
          exact hr
        · rw [if_pos (by omega)]
          rw [if_neg (by intro e; subst e; cases ha)] at hr
          exact hr
      · rw [if_neg e]
        have : (if 0 ≤ K.pv c then K.first else upd K.first (K.of c).toNat (K.nx c)) v = K.first v := by
          split
          · rfl
          · rw [eo, Int.toNat_natCast, upd_ne _ _ e]
        rw [this]
        exact Seg.congr (h.seg v hv) (fun x hx => (hother v hv e x hx).1) (fun x hx => (hother v hv e x hx).2)
    · try dsimp only
      split
      · exact hdAB
      · exact h.nodup v hv
    · try dsimp only at hx ⊢
      split at hx
      next e =>
        subst e
        have := hmem x (by simp at hx ⊢; rcases hx with hx | hx <;> simp [hx])
        exact ⟨this.1, this.2, fun e => hcA (e ▸ hx)⟩
      next e =>
        have := h.mem v hv x hx
        refine ⟨this.1, this.2, fun e2 => ?_⟩
        subst e2
        omega
    · try dsimp only
      have := h.all v hv x hx hxv
      split
      next e =>
        subst e
        rw [hAB] at this
        simp at this ⊢
        rcases this with h | h | h
        · exact .inl h
        · exact absurd h hxc
        · exact .inr h
      · exact this
  · rw [if_neg h0]
    exact ⟨L, ⟨h.seg, h.nodup, fun v hv x hx => ⟨(h.mem v hv x hx).1, (h.mem v hv x hx).2, fun e => by
      subst e
      have := (h.mem v hv x hx).2
      omega⟩, fun v hv x hx _ hxv => h.all v hv x hx hxv⟩⟩

theorem Lists'.put {nc nv : Nat} {K : Links} {c : Nat} {L : Nat → List Nat} (h : Lists' nc nv K c L) (hc : c < nc) {v : Int} (hv : v < nv) (hv1 : 0 ≤ v ∨ v = -1) :
    ListsOk nc nv (putIn K c v).first (putIn K c v).nx (putIn K c v).pv (putIn K c v).of := by
  unfold putIn
  by_cases h0 : 0 ≤ v
  · rw [if_pos h0]
    obtain ⟨o, rfl⟩ := Int.eq_ofNat_of_zero_le h0
    have hon : o < nv := by omega
    simp only [Int.toNat_natCast]
    have hcL : ∀ u, u < nv → c ∉ L u := fun u hu hm => (h.mem u hu c hm).2.2 rfl
    have hso := h.seg o hon
    refine ⟨fun u => if u = o then c :: L o else L u, ⟨fun u hu => ?_, fun u hu => ?_, fun u hu x hx => ?_, fun u hu x hx hxu => ?_⟩⟩
    · try dsimp only
      by_cases e : u = o
      · subst e
        rw [if_pos rfl, upd_self]
        refine ⟨rfl, ?_, ?_⟩
        · rw [outN_ne, upd_self]
          rcases hso.cur with ⟨e, _⟩ | ⟨b, B, hB, e⟩
          · omega
          · intro e2
            have : b = c := by omega
            subst this
            exact hcL u hu (by rw [hB]; simp)
        · rw [upd_self]
          cases hL : L u with
          | nil => rw [hL] at hso; exact hso
          | cons b B =>
            have hd := h.nodup u hu
            rw [hL] at hso hd
            obtain ⟨k1, k2, k3⟩ := hso
            have hbc : b ≠ c := fun e => hcL u hu (by rw [hL, e]; simp)
            refine ⟨k1, outN_eq k1, ?_⟩
            rw [upd_ne _ _ hbc]
            refine Seg.congr k3 (fun x hx => upd_ne _ _ (fun e => hcL u hu (by rw [hL, ← e]; simp [hx]))) (fun x hx => ?_)
            rw [outN_ne, upd_ne _ _ (fun e => hcL u hu (by rw [hL, ← e]; simp [hx]))]
            rw [k1]
            intro e
            have : b = x := by omega
            subst this
            exact (List.nodup_cons.1 hd).1 hx
      · rw [if_neg e, upd_ne _ _ e]
        refine Seg.congr (h.seg u hu) (fun x hx => upd_ne _ _ (fun e => hcL u hu (e ▸ hx))) (fun x hx => ?_)
        rw [outN_ne, upd_ne _ _ (by intro e; subst e; exact hcL u hu hx)]
        rcases hso.cur with ⟨e, _⟩ | ⟨b, B, hB, e⟩
        · omega
        · intro e2
          have : b = x := by omega
          subst this
          have h1 := (h.mem o hon b (by rw [hB]; simp)).2.1
          have h2 := (h.mem u hu b hx).2.1
          omega
    · try dsimp only
      split
      · exact List.nodup_cons.2 ⟨hcL o hon, h.nodup o hon⟩
      · exact h.nodup u hu
    · try dsimp only at hx ⊢
      split at hx
      next e =>
        subst e
        rcases List.mem_cons.1 hx with rfl | hx
        · exact ⟨hc, upd_self _ _ _⟩
        · have := h.mem u hu x hx
          exact ⟨this.1, by rw [upd_ne _ _ this.2.2]; exact this.2.1⟩
      next e =>
        have := h.mem u hu x hx
        exact ⟨this.1, by rw [upd_ne _ _ this.2.2]; exact this.2.1⟩
    · try dsimp only at hxu ⊢
      by_cases e : x = c
      · subst e
        rw [upd_self] at hxu
        have : u = o := by omega
        subst this
        rw [if_pos rfl]; simp
      · rw [upd_ne _ _ e] at hxu
        have := h.all u hu x hx e hxu
        split
        next e2 => subst e2; simp [this]
        · exact this
  · rw [if_neg h0]
    have hv' : v = -1 := by omega
    subst hv'
    refine ⟨L, ⟨h.seg, h.nodup, fun u hu x hx => ?_, fun u hu x hx hxu => ?_⟩⟩
    · have := h.mem u hu x hx
      exact ⟨this.1, by show upd K.of c (-1) x = _; rw [upd_ne _ _ this.2.2]; exact this.2.1⟩
    · have hxu : upd K.of c (-1) x = (u : Int) := hxu
      by_cases e : x = c
      · subst e; rw [upd_self] at hxu; omega
      · rw [upd_ne _ _ e] at hxu; exact h.all u hu x hx e hxu

theorem ListsOk.move {nc nv : Nat} {K : Links} (h : ListsOk nc nv K.first K.nx K.pv K.of) {c : Nat} (hc : c < nc) (ho : K.of c < nv) {v : Int} (hv : v < nv) (hv1 : 0 ≤ v ∨ v = -1) :
    ListsOk nc nv (moveTo K c v).first (moveTo K c v).nx (moveTo K c v).pv (moveTo K c v).of := by
  unfold moveTo
  split
  · exact h
  · obtain ⟨L, hL⟩ := h
    obtain ⟨L', hL'⟩ := Lists.out hL hc ho
    exact hL'.put hc hv hv1
theorem moveTo_of (K : Links) (c : Nat) (v : Int) : (moveTo K c v).of = upd K.of c v := by
  unfold moveTo
  split
  next h => funext j; by_cases e : j = c <;> simp [upd, e, h]
  · unfold putIn
    split
    · show upd (takeOut K c).of c v = _; rw [takeOut_of]
    · show upd (takeOut K c).of c v = _; rw [takeOut_of]
end Go.Proofs.Qxb6616080a
