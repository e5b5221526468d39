import Derived.Test.Qxb6614913aWalkN
namespace Go.Proofs.Qxb6614913a
open Go.RowKit
set_option linter.unusedVariables false
set_option linter.unusedSimpArgs false

theorem encU_len (ns : List Int) (hl : ns.length ≤ 1048576) (h : ∀ n ∈ ns, 0 ≤ n ∧ n < 18446744073709551616) : (encU ns).length ≤ 10485770 := by
  unfold encU
  rw [List.length_append]
  have h1 := uv_len (ns.length : Int) (by omega)
  have h2 := encN_len ns (fun n hn => (h n hn).2)
  omega
theorem encE_len (E : EntD) (ok : E.ok) : (encE E).length ≤ 12000000 := by
  have hf := encB_len E.frm.data.toList ok.f
  have ef : E.frm.data.toList.length = E.frm.size := rfl
  have hfs := ok.f
  have hs := uv_len E.seq ok.s1
  have key : ∀ l : List UInt8, l.length ≤ 10500000 → (encB E.frm.data.toList ++ (uv E.seq ++ l)).length ≤ 12000000 := by
    intro l hl
    simp only [List.length_append]
    omega
  unfold encE encC
  refine key _ ?_
  rcases hfl : E.fls with _ | ns
  · rcases hst : E.set with _ | d
    · simp only
      split
      · have := uv_len 8 (by omega); omega
      · split
        · have h1 := uv_len 7 (by omega)
          have h2 := encB_len E.data ok.d
          have := ok.d
          simp only [List.length_append]; omega
        · rcases hch : E.chg with _ | ⟨j, n, a⟩
          · simp only [List.length_append]
            have h1 := uv_len 0 (by omega)
            have h2 := encB_len E.data ok.d
            have := ok.d
            omega
          · obtain ⟨c1, c2⟩ := ok.c j n a hch
            have e1 : n.data.toList.length = n.size := rfl
            have e2 : a.data.toList.length = a.size := rfl
            have h1 := encB_len n.data.toList c1
            have h2 := encB_len a.data.toList c2
            cases j
            · simp only [List.length_append]
              have := uv_len 2 (by omega)
              omega
            · simp only [List.length_append]
              have := uv_len 1 (by omega)
              omega
    · simp only
      have hd := ok.t d hst
      unfold encS
      have e1 : d.elem.data.toList.length = d.elem.size := rfl
      have h1 := encB_len d.elem.data.toList hd.e
      have h2 := hd.e
      have h3 := uv_len d.at_ hd.a1
      split
      · have := uv_len 6 (by omega); omega
      · have h4 := uv_len (if d.remove then 5 else 4) (by split <;> omega)
        simp only [List.length_append, List.length_cons, List.length_nil]
        omega
  · simp only
    obtain ⟨u1, u2⟩ := ok.u ns hfl
    have h1 := encU_len ns u1 u2
    have h2 := uv_len 3 (by omega)
    simp only [List.length_append]
    omega
theorem encL_len (Es : List EntD) (ok : ∀ E ∈ Es, E.ok) : (encL Es).length ≤ 12000000 * Es.length := by
  induction Es with
  | nil => simp [encL]
  | cons E r ih =>
    have h1 := encE_len E (ok E (by simp))
    have h2 := ih (fun x hx => ok x (by simp [hx]))
    unfold encL at h2 ⊢
    simp only [List.flatMap_cons, List.length_append, List.length_cons]
    omega
theorem encL_split (Es : List EntD) (k : Nat) : encL Es = encL (Es.take k) ++ encL (Es.drop k) := by
  unfold encL
  rw [← List.flatMap_append, List.take_append_drop]

theorem BatAt.take {B : Nat} {w : World} {g : Nat} {Es : List EntD} (h : BatAt B w g 0 Es) (k : Nat) : BatAt B w g 0 (Es.take k) := by
  refine ⟨h.1, fun i hi => ?_⟩
  have hi' : i < Es.length := by simp at hi; omega
  simpa using h.2 i hi'
theorem BatAt.drop {B : Nat} {w : World} {g : Nat} {Es : List EntD} (h : BatAt B w g 0 Es) (k : Nat) : BatAt B w g (k * 8) (Es.drop k) := by
  refine ⟨h.1, fun i hi => ?_⟩
  have hi' : k + i < Es.length := by simp at hi; omega
  obtain ⟨da, dn, dc, co, fo, so, he, hc⟩ := h.2 (k + i) hi'
  refine ⟨da, dn, dc, co, fo, so, by simpa using he, fun j hj => ?_⟩
  have := hc j hj
  rw [show 0 + (k + i) * 8 + j = k * 8 + i * 8 + j from by omega] at this
  simpa using this

/-- The bytes of an own row, to be read. -/
theorem Buf.opened {w : World} {v : Value} {l : List UInt8} (h : Buf w v l) (hl : 0 < l.length) : ∃ g c, v = .slice (some ⟨g, 0, none⟩) l.length c ∧ ∀ j, j < l.length → w.cell? ⟨g, j, none⟩ = some (.int .u8 (l.getD j 0).toNat) := by
  obtain ⟨h1, ⟨rfl, h0⟩ | ⟨g, cap, cur, rfl, h2, h3, h4, h5, h6, h7⟩⟩ := h
  · omega
  · refine ⟨g, cap, rfl, fun j hj => ?_⟩
    rw [cellRow h3, ← Array.getElem?_toList]
    have e : (cur.toList.take (l.length * 1))[j]? = (Lib.byteCells l)[j]? := by rw [h7]
    rw [List.getElem?_take, if_pos (by omega)] at e
    rw [e]
    simp [Lib.byteCells, List.getD, hj]
theorem Buf.len {w : World} {v : Value} {l : List UInt8} (h : Buf w v l) : ∃ a c, v = .slice a l.length c := by
  obtain ⟨h1, ⟨rfl, h0⟩ | ⟨g, cap, cur, rfl, h2, h3, h4, h5, h6, h7⟩⟩ := h
  · exact ⟨none, 0, by rw [h0]⟩
  · exact ⟨_, _, rfl⟩
theorem grown_fr {W w w' : World} {v v' : Value} (h : W.grownBy w none) (hf : Fr w v w' v') (ha : Above W.heap.size v) : W.grownBy w' none :=
  ⟨hf.grown.os.trans h.os, hf.grown.tape.trans h.tape, hf.grown.output.trans h.output, Nat.le_trans h.size hf.grown.size, fun k hk hne => (hf.grown.block k (Nat.lt_of_lt_of_le hk h.size) (ha.ne hk)).trans (h.block k hk hne)⟩
theorem Above.mono {B B' : Nat} {v : Value} (h : Above B v) (hB : B' ≤ B) : Above B' v := fun g hg => Nat.le_trans hB (h g hg)

theorem f6_buf (da : Option Addr) (dn dc : Nat) (s : List UInt8) (w : World) (h : SliB w da dn dc s) (hs : s.length ≤ 1048576) :
    Calls Try.prog 6 #[.slice da dn dc] w fun e w' => ∃ da' dc', e = .returned (.slice da' dn dc') ∧ w.grownBy w' none ∧ Buf w' (.slice da' dn dc') s ∧ Above w.heap.size (.slice da' dn dc') ∧ SliB w' da' dn dc' s := by
  obtain ⟨rfl, ⟨rfl, h0, rfl⟩ | ⟨x, rfl, hc⟩⟩ := h
  · rw [h0]
    exact (f6_nil w).mono fun e w' ⟨he, hw⟩ => ⟨none, 0, he, by rw [hw]; exact World.grownBy.refl _ _, ⟨by simp [Lib.byteCells_length], .inl ⟨rfl, h0⟩⟩, fun g hg => by simp [Value.ownBlock] at hg, ⟨h0.symm, .inl ⟨rfl, rfl, rfl⟩⟩⟩
  · have key : ∀ w', w' = w.alloc (.cells (Lib.byteCells s).toArray 5) → w.grownBy w' none ∧ Buf w' (.slice (some ⟨w.heap.size, 0, none⟩) s.length s.length) s ∧ Above w.heap.size (.slice (some ⟨w.heap.size, 0, none⟩) s.length s.length) ∧ SliB w' (some ⟨w.heap.size, 0, none⟩) s.length s.length s := by
      rintro w' rfl
      refine ⟨World.grownBy_alloc _ _ _, ⟨by simp [Lib.byteCells_length], .inr ⟨w.heap.size, s.length, (Lib.byteCells s).toArray, rfl, Nat.zero_le _, by unfold World.alloc; exact Array.getElem?_push_size, Nat.le_refl _, by unfold maxLen; omega, by simp [Lib.byteCells_length], ?_⟩⟩, fun g hg => by simp [Value.ownBlock] at hg; omega, ⟨rfl, .inr ⟨_, rfl, fun i hi => ?_⟩⟩⟩
      · rw [List.toList_toArray, List.take_of_length_le (by rw [Lib.byteCells_length]; omega)]
      · rw [Addr.add_lit, Nat.zero_add, World.cell?_alloc_new]
        simp [Lib.byteCells, List.getD, hi]
    by_cases h0 : s.length = 0
    · have hnil : s = [] := List.eq_nil_of_length_eq_zero h0
      have key' := fun w' hw => key w' hw
      rw [h0] at key' ⊢
      exact (f6_zero x dc w).mono fun e w' ⟨he, hw⟩ => ⟨some ⟨w.heap.size, 0, none⟩, 0, he, key' w' (by rw [hw, hnil]; rfl)⟩
    · obtain ⟨b, off, rfl⟩ := spot_none (hc 0 (by omega))
      exact (f6_some b off s.length dc s w rfl hs (fun i hi => by rw [← Addr.add_lit]; exact hc i hi)).mono fun e w' ⟨he, hw⟩ => ⟨_, _, he, key w' hw⟩

/-- THE PLAIN LAW: where the three bodies agree. -/
theorem getD_left (a b : List UInt8) (i : Nat) (h : i < a.length) : (a ++ b).getD i 0 = a.getD i 0 := by simp [List.getD, List.getElem?_append_left h]
theorem getD_right (a b : List UInt8) (i : Nat) : (a ++ b).getD (a.length + i) 0 = b.getD i 0 := by simp [List.getD, List.getElem?_append_right]
structure Bodies (s q qx qy : List UInt8) (view nn inst : Int) (n k m hh a1 a2 a3 ex ey : Nat) : Prop where
  lq : q.length = hh + a1 + ex + ey
  lx : qx.length = hh + a2 + ex
  ly : qy.length = hh + a3 + ey
  eh : hh = s.length + 1 + (uv view).length + (uv nn).length + (uv inst).length
  e1 : a1 = (uv n).length
  e2 : a2 = (uv k).length
  e3 : a3 = (uv m).length
  same : ∀ i, i < hh → q.getD i 0 = qx.getD i 0 ∧ q.getD i 0 = qy.getD i 0
  want : ∀ i, i < s.length → q.getD i 0 = s.getD i 0
  px : ∀ i, i < ex → q.getD (hh + a1 + i) 0 = qx.getD (hh + a2 + i) 0
  py : ∀ i, i < ey → q.getD (hh + a1 + ex + i) 0 = qy.getD (hh + a3 + i) 0
  dq : ∃ post, q.drop s.length = [3] ++ (uv view ++ (uv nn ++ (uv inst ++ (uv n ++ post))))
  dx : ∃ post, qx.drop s.length = [3] ++ (uv view ++ (uv nn ++ (uv inst ++ (uv k ++ post))))
  dy : ∃ post, qy.drop s.length = [3] ++ (uv view ++ (uv nn ++ (uv inst ++ (uv m ++ post))))
theorem bodies (s : List UInt8) (view nn inst : Int) (Es : List EntD) (k : Nat) (hk : k ≤ Es.length) :
    Bodies s (body s view nn inst Es) (body s view nn inst (Es.take k)) (body s view nn inst (Es.drop k)) view nn inst Es.length k (Es.length - k)
      (s.length + 1 + (uv view).length + (uv nn).length + (uv inst).length) (uv Es.length).length (uv k).length (uv (Es.length - k : Nat)).length (encL (Es.take k)).length (encL (Es.drop k)).length := by
  have et : (Es.take k).length = k := by simp; omega
  have ed : (Es.drop k).length = Es.length - k := by simp
  obtain ⟨H, hH⟩ : ∃ H, s ++ [3] ++ uv view ++ uv nn ++ uv inst = H := ⟨_, rfl⟩
  have lH : H.length = s.length + 1 + (uv view).length + (uv nn).length + (uv inst).length := by rw [← hH]; simp only [List.length_append, List.length_cons, List.length_nil]
  have eq : body s view nn inst Es = H ++ (uv Es.length ++ (encL (Es.take k) ++ encL (Es.drop k))) := by
    unfold body; rw [hH, encL_split Es k]; simp only [List.append_assoc]
  have ex : body s view nn inst (Es.take k) = H ++ (uv k ++ encL (Es.take k)) := by
    unfold body; rw [hH, et]; simp only [List.append_assoc]
  have ey : body s view nn inst (Es.drop k) = H ++ (uv (Es.length - k : Nat) ++ encL (Es.drop k)) := by
    unfold body; rw [hH, ed]; simp only [List.append_assoc]
  have hs : H = s ++ ([3] ++ (uv view ++ (uv nn ++ uv inst))) := by rw [← hH]; simp only [List.append_assoc]
  rw [eq, ex, ey, ← lH]
  generalize encL (Es.take k) = X
  generalize encL (Es.drop k) = Y
  refine ⟨by simp only [List.length_append]; omega, by simp only [List.length_append]; omega, by simp only [List.length_append]; omega, lH, rfl, rfl, rfl, fun i hi => ?_, fun i hi => ?_, fun i hi => ?_, fun i hi => ?_, ⟨X ++ Y, ?_⟩, ⟨X, ?_⟩, ⟨Y, ?_⟩⟩
  · rw [getD_left _ _ _ hi, getD_left _ _ _ hi, getD_left _ _ _ hi]; exact ⟨rfl, rfl⟩
  · rw [hs, List.append_assoc, getD_left _ _ _ hi]
  · rw [Nat.add_assoc, Nat.add_assoc, getD_right, getD_right, getD_right, getD_right, getD_left _ _ _ hi]
  · rw [Nat.add_assoc H.length, Nat.add_assoc H.length, Nat.add_assoc H.length, Nat.add_assoc (uv (Es.length : Int)).length, getD_right, getD_right, getD_right, getD_right, getD_right]
  · rw [hs, List.append_assoc, List.drop_left]; simp only [List.append_assoc]
  · rw [hs, List.append_assoc, List.drop_left]; simp only [List.append_assoc]
  · rw [hs, List.append_assoc, List.drop_left]; simp only [List.append_assoc]
end Go.Proofs.Qxb6614913a
