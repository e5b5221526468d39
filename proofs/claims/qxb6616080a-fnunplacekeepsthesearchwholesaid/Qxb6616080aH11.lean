import Derived.Test.Qxb6616080aH10
import Derived.Maps.AppendAt
import Derived.Deep.AppendLies
namespace Go.Proofs.Qxb6616080a
open Go.RowKit
set_option linter.unusedVariables false
set_option linter.unusedSimpArgs false
set_option maxRecDepth 100000

theorem Try.info75' : (Try.prog.info? 75).map (fun i => (i.zero.map (fun z => z.cells.size), i.size, i.bytes)) = some (some 6, 6, 40) := by kernel_rfl
theorem info75 : ∃ i z, Try.prog.info? 75 = some i ∧ i.zero = some z ∧ i.size = 6 ∧ i.bytes = 40 ∧ z.cells.size = 6 := by
  have h := Try.info75'
  cases hi : Try.prog.info? 75 with
  | none => rw [hi] at h; simp at h
  | some i =>
    rw [hi] at h
    simp at h
    obtain ⟨⟨z, h1, h2⟩, h3, h4⟩ := h
    exact ⟨i, z, rfl, h1, h3, h4, h2⟩

/-- The history on its way. -/
structure Hs (base : Nat) (w : World) (H : Nat) (n : Nat) (xs : List Value) (v : Value) : Prop where
  hb : base ≤ H
  hr : ∃ u, Arr w H 4 73 u ∧ u 2 = v
  own : w.ownsRow base 75 6 v n xs
  ne : v.ownBlock ≠ some H
  bs : base ≤ w.heap.size

def op6 (pr ps : Int) (wr : Bool) (vv : Int) (st : ByteArray) (src : Int) : List Value := [.int .i32 pr, .int .i32 ps, .bool wr, .int .i32 vv, .string st, .int .i32 src]

def Post25 (base : Nat) (w : World) (H n : Nat) (xs : List Value) (e : Ending) (w' : World) : Prop := e = .returned (.tuple #[]) ∧ ∃ v', Hs base w' H n xs v' ∧ Below base w w'

theorem Hs.same {base H n : Nat} {w w' : World} {xs : List Value} {v : Value} (h : Hs base w H n xs v) (hs : Same w w') : Hs base w' H n xs v := by
  obtain ⟨u, hu, hv⟩ := h.hr
  refine ⟨h.hb, ⟨u, hu.of_block (by rw [hs.heap]), hv⟩, ?_, h.ne, by rw [hs.heap]; exact h.bs⟩
  have := h.own
  unfold World.ownsRow at this ⊢
  rw [hs.heap]
  exact this

theorem wpList_append_op {w : World} {ops : Array Oper} {rest : List Oper} {o : Oper} {a : Act} {Q : Exit → Act → World → Prop} (hgd : o.guard = none) (sv x : Operand)
    (ho : o.op = .call { callee := .builtin .append, args := #[sv, x], argTypes := #[71, 71] }) (base : Nat) (v : Value) (n : Nat) (xs : List Value) (hs : a.eval sv = v) (hv : w.ownsRow base 75 6 v n xs) (g c : Nat) (hx : a.eval x = .slice (some ⟨g, 0, none⟩) 1 c) (news : List Value) (hl : news.length = 6) (hnews : w.heap[g]? = some (.cells news.toArray 75 (0, 0))) (h1 : ∀ u ∈ news, u.oneCell' = true) (hn : n ≤ 4096) (hbase : base ≤ w.heap.size)
    (h : ∀ g' cap w', w'.ownsRow base 75 6 (.slice (some ⟨g', 0, none⟩) (n + 1) cap) (n + 1) (xs ++ news) → w.grownBy w' v.ownBlock → (v.ownBlock = some g' ∨ g' = w.heap.size) → wpList Try.prog ops Q rest (a.put o.dst (.slice (some ⟨g', 0, none⟩) (n + 1) cap)) w') : wpList Try.prog ops Q (o :: rest) a w := by
  obtain ⟨i, z, hi, hz, hsz, hby, hzs⟩ := info75
  refine wpList_append_lies (P := Try.prog) w hgd sv x 71 ho base 75 i z 6 40 Try.underlying71 hi hz hsz hby hzs (by omega) v n xs hs hv ⟨g, 0, none⟩ 1 c news hx (by omega) (fun j u hu => ?_) h1 (by omega) (by unfold maxLen; omega) (by omega) hbase _ rfl (fun g' cap w' h2 h3 h5 _ => h g' cap w' h2 h3 h5)
  rw [Addr.add_lit, Nat.zero_add]
  simp [World.cell?, hnews, hu]

theorem after_op {W w' : World} {base H n g g' cap : Nat} {u : Nat → Value} {v : Value} {ys : List Value} (hA : Arr W H 4 73 u) (ho : w'.ownsRow base 75 6 (.slice (some ⟨g', 0, none⟩) (n + 1) cap) (n + 1) ys) (hgr : W.grownBy w' v.ownBlock) (hbl : v.ownBlock = some g' ∨ g' = W.heap.size) (hnH : v.ownBlock ≠ some H) (hsW : W.heap.size = g + 1) (hHg : H < g) :
    Arr w' H 4 73 u ∧ (∀ k, k < W.heap.size → some k ≠ v.ownBlock → w'.heap[k]? = W.heap[k]?) ∧ (w'.os = W.os ∧ w'.tape = W.tape ∧ w'.output = W.output ∧ W.heap.size ≤ w'.heap.size) ∧ Value.ownBlock (.slice (some ⟨g', 0, none⟩) (n + 1) cap) ≠ some H := by
  refine ⟨hA.of_block (hgr.block H hA.lt (fun e => hnH e.symm)), hgr.block, ⟨hgr.os, hgr.tape, hgr.output, hgr.size⟩, ?_⟩
  simp only [Value.ownBlock]
  intro e
  injection e with e
  rcases hbl with h | h
  · rw [h, e] at hnH; exact hnH rfl
  · omega

set_option maxHeartbeats 8000000 in
/-- 'ZZaddOp' -/
theorem f25_to {base H n : Nat} {w : World} {xs : List Value} {v : Value} (hH : Hs base w H n xs v) (hn : n ≤ 4096) (pr ps : Int) (wr : Bool) (vv : Int) (st : ByteArray) (src : Int) :
    Calls Try.prog 25 #[.pointer (some ⟨H, 0, none⟩), .int .i32 pr, .int .i32 ps, .bool wr, .int .i32 vv, .string st, .int .i32 src] w (Post25 base w H (n + 1) (xs ++ op6 pr ps wr vv st src)) := by
  obtain ⟨u, hu, hu2⟩ := hH.hr
  have c2 : w.cell? ⟨H, 2, none⟩ = some v := by rw [hu.cell (by omega), hu2]
  obtain ⟨W, hW⟩ : ∃ W, w.alloc (.cells #[.int .i32 pr, .int .i32 ps, .bool wr, .int .i32 vv, .string st, .int .i32 src] 75) = W := ⟨_, rfl⟩
  obtain ⟨g, hg⟩ : ∃ g, w.heap.size = g := ⟨_, rfl⟩
  have hbW : Below w.heap.size w W := hW ▸ (Below.refl _ _).alloc (Nat.le_refl _) _
  have hgW : w.grownBy W none := hW ▸ World.grownBy_alloc w _ none
  have hown : Hid (W.ownsRow base 75 6 v n xs) := World.ownsRow.kept hH.own hgW (by cases hv : v.ownBlock <;> simp)
  have hnew : Hid (W.heap[g]? = some (.cells (op6 pr ps wr vv st src).toArray 75 (0, 0))) := by
    show W.heap[g]? = _
    rw [← hW, ← hg]
    exact heap_alloc_new w _
  have huW := hide (hu.below hbW hu.lt)
  have HH := hide hH
  have HU := hide hu
  have hsW : Hid (W.heap.size = g + 1) := by show W.heap.size = g + 1; rw [← hW, ← hg]; simp
  have HB := hide hbW
  have hHg : Hid (H < g) := by show H < g; rw [← hg]; exact hu.lt
  have hbg : Hid (base ≤ g) := by show base ≤ g; rw [← hg]; exact hH.bs
  clear hH hu hu2 hbW hgW
  have HbH : Hid (base ≤ H) := HH.out.hb
  have hnH : Hid (v.ownBlock ≠ some H) := HH.out.ne
  have hone : Hid (∀ u ∈ op6 pr ps wr vv st src, u.oneCell' = true) := fun u hu => by
    simp only [op6, List.mem_cons, List.not_mem_nil, or_false] at hu
    rcases hu with rfl | rfl | rfl | rfl | rfl | rfl <;> rfl
  clear HH
  go_enter Try.func25, Try.ntmps25
  go_wp2_with (at_builtin; refine wpList_append_op (by rfl) _ _ (by rfl) base v n xs (by rfl) hown.out g 1 (by rfl) (op6 pr ps wr vv st src) rfl hnew.out hone.out hn (by rw [hsW.out]; have := hbg.out; omega) ?_; intro g' cap w' ho2 hgr hbl; obtain ⟨hA, hF, hB, hN⟩ := after_op huW.out ho2 hgr hbl hnH.out hsW.out hHg.out; have cH := hA.cell (j := 2) (by omega); have fH := hA.frozen 2; have HA := hide hA; have HF := hide hF; have HO2 := hide ho2; have HBB := hide hB; have HN := hide hN; clear hA hF hB hN ho2 hgr hbl)
  refine bodyPost_end (results_none rfl _ _ _) rfl ?_
  refine ⟨rfl, _, ⟨?_, ⟨_, HA.out.set (j := 2) (by omega) _, fset_self _ _ _⟩, ?_, HN.out, ?_⟩, ?_⟩
  · exact HbH.out
  · refine World.ownsRow.kept HO2.out (row := some H) ⟨rfl, rfl, rfl, by simp, fun k hk hne => Below.heap_setCell w' ⟨H, 2, none⟩ _ k (by show k ≠ H; intro e; subst e; exact hne rfl)⟩ (.inr HN.out)
  · have h1 := HBB.out.2.2.2
    have h2 := hsW.out
    have h3 := hbg.out
    simp only [World.size_setCell]
    omega
  · have h1 := HBB.out
    have h2 := HB.out
    have h3 := hsW.out
    have h4 := hbg.out
    refine ⟨h1.1.trans h2.os, h1.2.1.trans h2.tape, h1.2.2.1.trans h2.output, ?_, fun k hk => ?_⟩
    · have := h2.size
      simp only [World.size_setCell]
      omega
    · rw [Below.heap_setCell w' ⟨H, 2, none⟩ _ k (by show k ≠ H; have := HbH.out; omega), HF.out k (by omega) (fun e => by have := (World.ownsRow.lt hown.out k e.symm).1; omega), h2.block k (by rw [hg]; omega)]

/-- 'ZZnewHistory' of nothing. -/
theorem f24_to (w : World) : Calls Try.prog 24 #[.slice none 0 0, .slice none 0 0, .slice none 0 0] w fun e w' => e = .returned (.pointer (some ⟨w.heap.size, 0, none⟩)) ∧ w' = w.alloc (.cells #[.slice none 0 0, .slice none 0 0, .slice none 0 0, .slice none 0 0] 73) := by
  go_enter Try.func24, Try.ntmps24
  go_wp2
  go_ret
  exact ⟨rfl, rfl⟩

def opsL (P : Nat → List Value) : Nat → List Value
  | 0 => []
  | k + 1 => opsL P k ++ P k
theorem opsL_len {P : Nat → List Value} (hP : ∀ i, (P i).length = 6) : ∀ k, (opsL P k).length = k * 6
  | 0 => rfl
  | k + 1 => by simp only [opsL, List.length_append, opsL_len hP k, hP]; omega
theorem opsL_at {P : Nat → List Value} (hP : ∀ i, (P i).length = 6) {i j : Nat} (hj : j < 6) : ∀ k, i < k → (opsL P k)[i * 6 + j]? = (P i)[j]?
  | 0, h => by omega
  | k + 1, h => by
    simp only [opsL]
    by_cases e : i = k
    · subst e
      rw [List.getElem?_append_right (by rw [opsL_len hP]; omega), opsL_len hP]
      congr 1
      omega
    · rw [List.getElem?_append_left (by rw [opsL_len hP]; omega)]
      exact opsL_at hP hj k (by omega)

/-- What 'opsHistory' leaves. -/
def Post11 (E : Env) (w : World) (e : Ending) (w' : World) : Prop := ∃ (H : Nat) (a : Option Addr) (b c : Nat), e = .returned (.pointer (some ⟨H, 0, none⟩)) ∧ Below w.heap.size w w' ∧ w.heap.size ≤ H ∧ H < w'.heap.size ∧ w'.cell? ⟨H, 2, none⟩ = some (.slice a E.n c) ∧
  (0 < E.n → a = some ⟨b, 0, none⟩ ∧ w.heap.size ≤ b ∧ b < w'.heap.size ∧ b ≠ H) ∧
  (∀ i, i < E.n → w'.cell? ⟨b, i * 6, none⟩ = some (.int .i32 (E.proc i)) ∧ w'.cell? ⟨b, i * 6 + 2, none⟩ = some (.bool (E.wr i)) ∧ w'.cell? ⟨b, i * 6 + 3, none⟩ = some (.int .i32 (E.vv i)) ∧ w'.cell? ⟨b, i * 6 + 5, none⟩ = some (.int .i32 (E.src i)))

theorem Hs.post {E : Env} {w w' : World} {H : Nat} {v : Value} {ps : Nat → Int} {st : Nat → ByteArray} (h : Hs w.heap.size w' H E.n (opsL (fun i => op6 (E.proc i) (ps i) (E.wr i) (E.vv i) (st i) (E.src i)) E.n) v) (hb : Below w.heap.size w w') : Post11 E w (.returned (.pointer (some ⟨H, 0, none⟩))) w' := by
  obtain ⟨u, hu, hv⟩ := h.hr
  have hH : w'.cell? ⟨H, 2, none⟩ = some v := by rw [hu.cell (by omega), hv]
  have hP : ∀ i, ((fun i => op6 (E.proc i) (ps i) (E.wr i) (E.vv i) (st i) (E.src i)) i).length = 6 := fun i => rfl
  rcases h.own.2 with ⟨rfl, h0⟩ | ⟨g, cap, cur, rfl, hbg, hgg, _⟩
  · refine ⟨H, none, 0, 0, rfl, hb, h.hb, hu.lt, by rw [hH, h0], fun h => by omega, fun i hi => by omega⟩
  · have hc := World.ownsRow.cells h.own (g := g) rfl
    have hat : ∀ i j u, i < E.n → j < 6 → (op6 (E.proc i) (ps i) (E.wr i) (E.vv i) (st i) (E.src i))[j]? = some u → w'.cell? ⟨g, i * 6 + j, none⟩ = some u := fun i j u hi hj hu => by
      have := hc (i * 6 + j) u (by rw [opsL_at hP hj E.n hi]; exact hu)
      rw [Addr.add_lit, Nat.zero_add] at this
      exact this
    exact ⟨H, _, g, cap, rfl, hb, h.hb, hu.lt, hH, fun _ => ⟨rfl, hbg, (Array.getElem?_eq_some_iff.1 hgg).1, fun e => h.ne (by rw [e]; rfl)⟩, fun i hi => ⟨hat i 0 _ hi (by omega) rfl, hat i 2 _ hi (by omega) rfl, hat i 3 _ hi (by omega) rfl, hat i 5 _ hi (by omega) rfl⟩⟩

set_option maxHeartbeats 8000000 in
/-- 'opsHistory' -/
theorem f11_pos {T : Ad} {E : Env} {D : Dyn} {w : World} (hR : Rd w w.heap.size T E D) (hpos : 0 < E.n) : Calls Try.prog 11 #[.slice (some ⟨T.ob, T.oo, none⟩) E.n T.oc] w (Post11 E w) := by
  obtain ⟨ps, hps⟩ : ∃ ps : Nat → Int, ∀ i, i < E.n → w.cell? ⟨T.ob, T.oo + i * 6 + 1, none⟩ = some (.int .i32 (ps i)) :=
    ⟨fun i => if h : i < E.n then (hR.o1 i h).choose else 0, fun i hi => by simp only [dif_pos hi]; exact (hR.o1 i hi).choose_spec.1⟩
  obtain ⟨st, hst⟩ : ∃ st : Nat → ByteArray, ∀ i, i < E.n → w.cell? ⟨T.ob, T.oo + i * 6 + 4, none⟩ = some (.string (st i)) :=
    ⟨fun i => if h : i < E.n then (hR.o4 i h).choose else ByteArray.empty, fun i hi => by simp only [dif_pos hi]; exact (hR.o4 i hi).choose_spec.1⟩
  have h24 := f24_to w
  have hn := hR.m_n
  have h0 : Hs w.heap.size (w.alloc (.cells #[.slice none 0 0, .slice none 0 0, .slice none 0 0, .slice none 0 0] 73)) w.heap.size 0 (opsL (fun i => op6 (E.proc i) (ps i) (E.wr i) (E.vv i) (st i) (E.src i)) 0) (.slice none 0 0) :=
    ⟨Nat.le_refl _, ⟨fun _ => .slice none 0 0, ⟨_, heap_alloc_new w _, rfl, fun j hj => by
      have : j = 0 ∨ j = 1 ∨ j = 2 ∨ j = 3 := by omega
      rcases this with rfl | rfl | rfl | rfl <;> rfl⟩, rfl⟩, World.ownsRow_nil _ _ _ _, by simp [Value.ownBlock], by simp⟩
  have HB0 : Hid (Below w.heap.size w (w.alloc (.cells #[.slice none 0 0, .slice none 0 0, .slice none 0 0, .slice none 0 0] 73))) := (Below.refl _ _).alloc (Nat.le_refl _) _
  generalize hPP : (fun i => op6 (E.proc i) (ps i) (E.wr i) (E.vv i) (st i) (E.src i)) = PP at h0
  have HPP := hide hPP
  have H0 := hide h0
  have HR := hide hR
  have HPS := hide hps
  have HST := hide hst
  have H24 := hide h24
  obtain ⟨H, hH⟩ : ∃ H, w.heap.size = H := ⟨_, rfl⟩
  rw [hH] at H0 H24
  have HH := hide hH
  clear hPP h0 hR hps hst h24 hH
  go_enter Try.func11, Try.ntmps11
  go_wp2_with fail
  refine H24.out.mono ?_
  rintro e w1 ⟨rfl, hw1⟩
  have H1 : Hid (∃ v, Hs H w1 H 0 (opsL PP 0) v) := ⟨_, hw1 ▸ H0.out⟩
  have HB1 : Hid (Below w.heap.size w w1) := hw1 ▸ HB0.out
  clear hw1 H0 HB0 H24
  go_wp2_with fail
  go_loopg [4] (E.n) (fun kx s4 wr => ∃ k : Nat, k ≤ E.n ∧ kx = E.n - k ∧ s4 = .int .i64 (k : Nat) ∧ Hid (∃ v, Hs H wr H k (opsL PP k) v ∧ Below w.heap.size w wr))
  case atStart =>
    obtain ⟨v, hv⟩ := H1.out
    exact ⟨0, by omega, by omega, rfl, hide ⟨v, hv, HB1.out⟩⟩
  case round =>
    obtain ⟨k, hk, hgk, rfl, HI⟩ := hrel
    by_cases hkn : k < E.n
    · obtain ⟨v, hs, hb⟩ := HI.out
      have hRk := HR.out.below hb
      have o0 := hRk.o0 k hkn
      have o1 := (hb.cell (p := ⟨T.ob, T.oo + k * 6 + 1, none⟩) (HR.out.oB (by omega))).trans (HPS.out k hkn)
      have o2 := hRk.o2 k hkn
      have o3 := hRk.o3 k hkn
      have o4 := (hb.cell (p := ⟨T.ob, T.oo + k * 6 + 4, none⟩) (HR.out.oB (by omega))).trans (HST.out k hkn)
      have o5 := hRk.o5 k hkn
      have b1 : (k : Int) < (E.n : Int) := by omega
      have b0 : (0 : Int) ≤ (k : Int) := by omega
      have e4 : IntKind.i64.wrap ((k : Int) + 1) = (k : Int) + 1 := w64' (by unfold i64; omega)
      have H25 : Hid (∀ w', Same wr w' → Calls Try.prog 25 #[.pointer (some ⟨H, 0, none⟩), .int .i32 (E.proc k), .int .i32 (ps k), .bool (E.wr k), .int .i32 (E.vv k), .string (st k), .int .i32 (E.src k)] w' fun e w'' => e = .returned (.tuple #[]) ∧ Hid ((∃ v, Hs H w'' H (k + 1) (opsL PP (k + 1)) v) ∧ Below w.heap.size w w'')) := fun w' hsm => by
        refine (f25_to (hs.same hsm) (by omega) (E.proc k) (ps k) (E.wr k) (E.vv k) (st k) (E.src k)).mono ?_
        rintro e w'' ⟨rfl, v', h1, h2⟩
        refine ⟨rfl, ⟨v', ?_⟩, ?_⟩
        · have : opsL PP (k + 1) = opsL PP k ++ op6 (E.proc k) (ps k) (E.wr k) (E.vv k) (st k) (E.src k) := by rw [← HPP.out]; rfl
          rw [this]; exact h1
        · have hsm' : Below w.heap.size wr w' := ⟨hsm.os, hsm.tape, hsm.output, by rw [hsm.heap]; exact Nat.le_refl _, fun k _ => by rw [hsm.heap]⟩
          exact (hb.trans hsm').trans (HH.out ▸ h2)
      have hoB : Hid (T.ob < w.heap.size) := HR.out.oB (by omega)
      have hwr : Hid (Below w.heap.size w wr) := hb
      clear hs hb hRk HI
      go_wp2_with fail
      go_region_held3 (fun w' => w'.cell? ⟨T.ob, T.oo + k * 6, none⟩ = some (.int .i32 (E.proc k)) ∧ w'.cell? ⟨T.ob, T.oo + k * 6 + 1, none⟩ = some (.int .i32 (ps k)) ∧ w'.cell? ⟨T.ob, T.oo + k * 6 + 2, none⟩ = some (.bool (E.wr k)) ∧ w'.cell? ⟨T.ob, T.oo + k * 6 + 3, none⟩ = some (.int .i32 (E.vv k)) ∧ w'.cell? ⟨T.ob, T.oo + k * 6 + 4, none⟩ = some (.string (st k)) ∧ w'.cell? ⟨T.ob, T.oo + k * 6 + 5, none⟩ = some (.int .i32 (E.src k)))
        (first | exact ⟨o0, o1, o2, o3, o4, o5⟩ | exact ⟨(HR.out.below hp.out.2).o0 k hkn, (hp.out.2.cell (p := ⟨T.ob, T.oo + k * 6 + 1, none⟩) hoB.out).trans (HPS.out k hkn), (HR.out.below hp.out.2).o2 k hkn, (HR.out.below hp.out.2).o3 k hkn, (hp.out.2.cell (p := ⟨T.ob, T.oo + k * 6 + 4, none⟩) hoB.out).trans (HST.out k hkn), (HR.out.below hp.out.2).o5 k hkn⟩)
        ((go_at_call 25; refine (H25.out _ (by exact ⟨rfl, rfl, rfl, rfl⟩)).mono ?_; rintro e w2 ⟨rfl, hp⟩))
      go_wp2_with fail
      go_roundg (E.n - (k + 1))
      case measure => omega
      case rel =>
        obtain ⟨⟨v, h1⟩, h2⟩ := hp.out
        exact ⟨k + 1, by omega, rfl, by go_num, hide ⟨v, h1, h2⟩⟩
    · have b1 : ¬ (k : Int) < (E.n : Int) := by omega
      go_wp2_with fail
      go_ret
      obtain ⟨v, hs, hb⟩ := HI.out
      have e : k = E.n := by omega
      subst e
      rw [← HPP.out] at hs
      have hh := HH.out
      subst hh
      exact hs.post hb
set_option maxHeartbeats 8000000 in
/-- 'opsHistory' -/
theorem f11_neg {T : Ad} {E : Env} {D : Dyn} {w : World} (hR : Rd w w.heap.size T E D) (hpos : ¬ 0 < E.n) : Calls Try.prog 11 #[.slice T.oA E.n T.oc] w (Post11 E w) := by
  obtain ⟨ps, hps⟩ : ∃ ps : Nat → Int, ∀ i, i < E.n → w.cell? ⟨T.ob, T.oo + i * 6 + 1, none⟩ = some (.int .i32 (ps i)) :=
    ⟨fun i => if h : i < E.n then (hR.o1 i h).choose else 0, fun i hi => by simp only [dif_pos hi]; exact (hR.o1 i hi).choose_spec.1⟩
  obtain ⟨st, hst⟩ : ∃ st : Nat → ByteArray, ∀ i, i < E.n → w.cell? ⟨T.ob, T.oo + i * 6 + 4, none⟩ = some (.string (st i)) :=
    ⟨fun i => if h : i < E.n then (hR.o4 i h).choose else ByteArray.empty, fun i hi => by simp only [dif_pos hi]; exact (hR.o4 i hi).choose_spec.1⟩
  have h24 := f24_to w
  have hn := hR.m_n
  have h0 : Hs w.heap.size (w.alloc (.cells #[.slice none 0 0, .slice none 0 0, .slice none 0 0, .slice none 0 0] 73)) w.heap.size 0 (opsL (fun i => op6 (E.proc i) (ps i) (E.wr i) (E.vv i) (st i) (E.src i)) 0) (.slice none 0 0) :=
    ⟨Nat.le_refl _, ⟨fun _ => .slice none 0 0, ⟨_, heap_alloc_new w _, rfl, fun j hj => by
      have : j = 0 ∨ j = 1 ∨ j = 2 ∨ j = 3 := by omega
      rcases this with rfl | rfl | rfl | rfl <;> rfl⟩, rfl⟩, World.ownsRow_nil _ _ _ _, by simp [Value.ownBlock], by simp⟩
  have HB0 : Hid (Below w.heap.size w (w.alloc (.cells #[.slice none 0 0, .slice none 0 0, .slice none 0 0, .slice none 0 0] 73))) := (Below.refl _ _).alloc (Nat.le_refl _) _
  generalize hPP : (fun i => op6 (E.proc i) (ps i) (E.wr i) (E.vv i) (st i) (E.src i)) = PP at h0
  have HPP := hide hPP
  have H0 := hide h0
  have HR := hide hR
  have HPS := hide hps
  have HST := hide hst
  have H24 := hide h24
  obtain ⟨H, hH⟩ : ∃ H, w.heap.size = H := ⟨_, rfl⟩
  rw [hH] at H0 H24
  have HH := hide hH
  clear hPP h0 hR hps hst h24 hH
  go_enter Try.func11, Try.ntmps11
  go_wp2_with fail
  refine H24.out.mono ?_
  rintro e w1 ⟨rfl, hw1⟩
  have H1 : Hid (∃ v, Hs H w1 H 0 (opsL PP 0) v) := ⟨_, hw1 ▸ H0.out⟩
  have HB1 : Hid (Below w.heap.size w w1) := hw1 ▸ HB0.out
  clear hw1 H0 HB0 H24
  go_wp2_with fail
  go_loopg [4] (E.n) (fun kx s4 wr => ∃ k : Nat, k ≤ E.n ∧ kx = E.n - k ∧ s4 = .int .i64 (k : Nat) ∧ Hid (∃ v, Hs H wr H k (opsL PP k) v ∧ Below w.heap.size w wr))
  case atStart =>
    obtain ⟨v, hv⟩ := H1.out
    exact ⟨0, by omega, by omega, rfl, hide ⟨v, hv, HB1.out⟩⟩
  case round =>
    obtain ⟨k, hk, hgk, rfl, HI⟩ := hrel
    by_cases hkn : k < E.n
    · omega
    · have b1 : ¬ (k : Int) < (E.n : Int) := by omega
      go_wp2_with fail
      go_ret
      obtain ⟨v, hs, hb⟩ := HI.out
      have e : k = E.n := by omega
      subst e
      rw [← HPP.out] at hs
      have hh := HH.out
      subst hh
      exact hs.post hb
/-- 'opsHistory' -/
theorem f11_to {T : Ad} {E : Env} {D : Dyn} {w : World} (hR : Rd w w.heap.size T E D) : Calls Try.prog 11 #[.slice T.oA E.n T.oc] w (Post11 E w) := by
  by_cases h : 0 < E.n
  · rw [hR.on h]; exact f11_pos hR h
  · exact f11_neg hR h
end Go.Proofs.Qxb6616080a
