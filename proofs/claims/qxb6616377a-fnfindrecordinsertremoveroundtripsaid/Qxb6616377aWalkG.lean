import Derived.Test.Qxb6616377aWalkF
import Derived.Test.Qxb6616377aPlain2
import Derived.Maps.AppendAt
namespace Go.Proofs.Qxb6616377a
open Go.RowKit
set_option linter.unusedVariables false
set_option linter.unusedSimpArgs false

set_option maxHeartbeats 400000 in
theorem f8_any (a : Option Addr) (n cap : Nat) (id : Int) (w : World) (hn : n ≤ 1048576) :
    Calls Try.prog 8 #[.slice a n cap, .int .i64 id] w fun e w' => e = .returned (.bool true) ∧ w' = w := by
  go_enter Try.func8, Try.ntmps8
  go_wp2
  go_ret
  exact ⟨rfl, rfl⟩

/-- 'make([]int, 0, c)'. -/
theorem mk0 (c : Nat) (hn : c ≤ 1048577) (w : World) : (Instr.makeSlice 22 (.int .i64 0) (.int .i64 (c : Int))).run Try.prog w = .ok (.slice (some ⟨w.heap.size, 0, none⟩) 0 c) (w.alloc (.cells (madeCells #[.int .i64 0] c) 3)) := by
  obtain ⟨i, hi, hz, hs, hb⟩ := info_parts Try.info3
  have hr := run_make (P := Try.prog) w 22 3 i _ Try.underlying22 hi hz .i64 .i64 0 c (by omega) (by omega) (by rw [hb]; omega) (by omega)
  simpa [hs, Value.cells] using hr

/-- THE ROW THAT IS APPENDED TO: block B, m numbers 'xs', room for cap; below B all is as in w0. -/
structure OwnR (B : Nat) (w0 : World) (m cap : Nat) (xs : List Int) (wr : World) : Prop where
  own : wr.ownsRow B 3 1 (.slice (some ⟨B, 0, none⟩) m cap) m (xs.map (Value.int .i64))
  bel : Below B w0 wr
  lt : B < wr.heap.size

theorem OwnR.start (w : World) (cap : Nat) (hc : cap ≤ 1048577) : OwnR w.heap.size w 0 cap [] (w.alloc (.cells (madeCells #[.int .i64 0] cap) 3)) :=
  ⟨World.ownsRow_made w _ cap (Nat.le_refl _) (by unfold maxLen; omega) (by simp [size_madeCells]), (Below.refl _ _).alloc (Nat.le_refl _) _, by simp⟩

theorem OwnR.push {B : Nat} {w0 wr w2 : World} {m cap : Nat} {xs : List Int} {y : Int} {o : Obj} (h : OwnR B w0 m cap xs wr)
    (h2 : w2.ownsRow B 3 1 (.slice (some ⟨B, 0, none⟩) (m + 1) cap) (m + 1) (xs.map (Value.int .i64) ++ [.int .i64 y])) (hg : (wr.alloc o).grownBy w2 (some B)) : OwnR B w0 (m + 1) cap (xs ++ [y]) w2 := by
  have hlt := h.lt
  refine ⟨by simpa using h2, (h.bel.alloc (by omega) _).grown hg (by simp; omega) (fun k e => by cases e; exact Nat.le_refl _), ?_⟩
  have := hg.size
  simp at this
  omega

theorem OwnR.len {B : Nat} {w0 wr : World} {m cap : Nat} {xs : List Int} (h : OwnR B w0 m cap xs wr) : xs.length = m := by
  have := h.own.1; simpa using this

theorem OwnR.cell {B : Nat} {w0 wr : World} {m cap : Nat} {xs : List Int} (h : OwnR B w0 m cap xs wr) : ∀ i, i < m → wr.cell? ⟨B, i, none⟩ = some (.int .i64 (xs.getD i 0)) := by
  intro i hi
  have hl := h.len
  have := h.own.cells (g := B) rfl i (.int .i64 (xs.getD i 0)) (by simp [List.getD, hl, hi])
  simpa [Addr.add_lit] using this

set_option maxHeartbeats 1000000 in
set_option maxRecDepth 100000 in
theorem f4_some (x : Addr) (n cap : Nat) (l : List Int) (id : Int) (w : World) (hl : l.length = n) (hn : n ≤ 65536)
    (hx : ∀ i, i < n → w.cell? (x.add i) = some (.int .i64 (l.getD i 0))) :
    Calls Try.prog 4 #[.slice (some x) n cap, .int .i64 id] w fun e w' => e = .returned (.bool true) ∧ Below w.heap.size w w' := by
  have hne := fun w => run_neq_slice_nil_any (P := Try.prog) w 22 3 (some x) n cap 0 0 Try.underlying22
  have hmk := mk3 n (by omega)
  have hcp := cp3 x n cap l hl w hx
  have h18 : decide ((65536 : Int) < (n : Int)) = false := decide_eq_false (by omega)
  have HL : Hid (l.length = n) := hl
  have HC : Hid (∀ i, i < n → (w.alloc (.cells (cellsOfInts l) 3)).cell? ⟨w.heap.size, i, none⟩ = some (.int .i64 (l.getD i 0))) := by
    intro i hi
    rw [World.cell?_alloc_new, cellsOfInts_get (by omega)]
  have HB : Hid (Below w.heap.size w (w.alloc (.cells (cellsOfInts l) 3))) := (Below.refl _ _).alloc (Nat.le_refl _) _
  have hgs : w.heap.size < (w.alloc (.cells (cellsOfInts l) 3)).heap.size := by simp
  clear hl hx
  go_enter Try.func4, Try.ntmps4
  go_wp2_with (go_at_call 8; refine (f8_any _ _ _ _ _ (by omega)).mono ?_; rintro e w ⟨rfl, rfl⟩)
  clear hne hmk hcp
  generalize w.alloc (.cells (cellsOfInts l) 3) = W at HC HB hgs ⊢
  generalize hgg : w.heap.size = g at HC HB hgs ⊢
  have HG : Hid (w.heap.size = g) := hgg
  clear hgg
  go_loopw [6] (fun s6 wr => ∃ j : Nat, s6 = .int .i64 ((j : Int) + 1) ∧ (j + 1 ≤ n ∨ j = 0) ∧ Hid (IncTo l j) ∧ ∃ q, wr = W.drewN q) (fun s6 wr => n + 1 - (intOf s6).toNat)
  case atStart => exact ⟨0, rfl, .inr rfl, fun i h => absurd h (Nat.not_lt_zero _), 0, rfl⟩
  case round =>
    obtain ⟨j, rfl, hj, HI, q, rfl⟩ := hrel
    by_cases hlt : j + 1 < n
    · have c1 := HC.out j (by omega)
      have c2 := HC.out (j + 1) (by omega)
      generalize ha : l.getD j 0 = a at c1
      generalize hb : l.getD (j + 1) 0 = b at c2
      have HA : Hid (l.getD j 0 = a) := ha
      have HB2 : Hid (l.getD (j + 1) 0 = b) := hb
      clear ha hb
      by_cases hab : b ≤ a
      · go_wp2
        go_quiet (fail)
        go_wp2
        go_ret
        exact ⟨rfl, by rw [HG.out]; exact HB.out.trans (b := W) ⟨rfl, rfl, rfl, Nat.le_refl _, fun _ _ => rfl⟩⟩
      · go_wp2
        go_quiet (fail)
        go_wp2
        go_roundw
        case rel =>
          refine ⟨j + 1, by go_num, .inl (by omega), ?_, _, rfl⟩
          intro i hi
          rcases Nat.lt_or_eq_of_le (Nat.le_of_lt_succ hi) with h | h
          · exact HI.out i h
          · rw [h, HA.out, HB2.out]; omega
        case measure => simp [intOf]; omega
    · have hinc : Inc l := IncTo.inc HI.out (by rw [HL.out]; omega)
      have HINC : Hid (Inc l) := hinc
      have t38 : decide ((j : Int) + 1 < (n : Int)) = false := decide_eq_false (by omega)
      clear hinc
      go_wp2_with fail
      refine (f7_some g n n l _ (by omega) (fun _ => by exact hgs) (by exact HC.out)).mono ?_
      rintro e w1 ⟨v, rfl, sb, g2, cap2, rb, rfl, hS, hR, hI2, hbel⟩
      have h6 := f6_any sb g2 n cap2 rb l id w1 HL.out (by omega) hS hR hI2 HINC.out
      have HC1 : Hid (∀ i, i < n → w1.cell? ⟨g, i, none⟩ = some (.int .i64 (l.getD i 0))) := fun i hi => (hbel.cell (by exact hgs)).trans (HC.out i hi)
      have HB1 : Hid (Below g w w1) := (HB.out.trans ⟨rfl, rfl, rfl, Nat.le_refl _, fun _ _ => rfl⟩ : Below g w (W.drewN q)).trans (hbel.mono (by exact Nat.le_of_lt hgs))
      have hgs1 : g < w1.heap.size := Nat.lt_of_lt_of_le hgs hbel.size
      clear hS hR hI2 hbel HC HB hgs
      have hcle : lbd l id ≤ n := by rw [← HL.out]; exact List.countP_le_length
      by_cases hf : fnd l id = true
      · -- it is there
        obtain ⟨p1, p2, p3, p4, p5⟩ := rst_law (i := lbd l id) HINC.out hf rfl
        rw [hf] at h6
        rw [HL.out] at p1 p3 p4 p5
        generalize hcn : lbd l id = i at h6 hcle p1 p2 p3 p4 p5
        have HP2 : Hid (l.getD i 0 = id) := p2
        have HP3 : Hid (Inc (rst l i n)) := p3
        have HP4 : Hid (lbd (rst l i n) id = i) := p4
        have HP5 : Hid (fnd (rst l i n) id = false) := p5
        clear hcn p2 p3 p4 p5 hf
        have ci : w1.cell? ⟨g, i, none⟩ = some (.int .i64 id) := by rw [HC1.out i p1, HP2.out]
        have t1 : decide ((i : Int) < 0) = false := decide_eq_false (by omega)
        have t2 : decide (n < i) = false := decide_eq_false (by omega)
        have t3 : ((i : Int) == (n : Int)) = false := by simp; omega
        have hmk := mk0 n (by omega)
        have HST : Hid _ := OwnR.start w1 n (by omega)
        obtain ⟨i0, hi, hz0, hz1, hz2⟩ := info_parts Try.info3
        go_wp2_with (go_at_call 6; refine h6.mono ?_; rintro e w1 ⟨rfl, rfl⟩)
        clear hmk h6 ci t1 t3
        go_loopw [9, 10] (fun s9 s10 wr => ∃ k m : Nat, k ≤ n ∧ m ≤ k ∧ s10 = .int .i64 k ∧ s9 = .slice (some ⟨w1.heap.size, 0, none⟩) m n ∧ OwnR w1.heap.size w1 m n (rst l i k) wr) (fun s9 s10 wr => n - (intOf s10).toNat)
        case atStart => exact ⟨0, 0, Nat.zero_le _, Nat.le_refl _, rfl, rfl, by rw [rst_zero]; exact HST.out⟩
        case round =>
          obtain ⟨k, m, hk, hmk, rfl, rfl, hown⟩ := hrel
          by_cases hkn : k < n
          · by_cases hki : k = i
            · have t4 : ((k : Int) != (i : Int)) = false := by simp; omega
              have R : Hid (rst l i (k + 1) = rst l i k) := by rw [hki]; exact rst_hit l i (by rw [HL.out]; exact p1)
              have HKI : Hid (k = i) := hki
              clear hki
              go_wp2
              go_roundw
              case rel => exact ⟨k + 1, m, by omega, by omega, by go_num, rfl, by rw [R.out]; exact hown⟩
              case measure => simp [intOf]; omega
            · have t4 : ((k : Int) != (i : Int)) = true := by simp; omega
              have R : Hid (rst l i (k + 1) = rst l i k ++ [l.getD k 0]) := rst_miss l i k (by rw [HL.out]; exact hkn) hki
              have c1 : wr.cell? ⟨g, k, none⟩ = some (.int .i64 (l.getD k 0)) := (hown.bel.cell (by exact hgs1)).trans (HC1.out k hkn)
              generalize hy : l.getD k 0 = y at c1
              have HY : Hid (l.getD k 0 = y) := hy
              clear hy hki
              go_wp2_with (at_builtin; refine wpList_append_fits _ rfl _ _ 22 rfl w1.heap.size 3 i0 1 Try.underlying22 hi hz1 w1.heap.size m n ((rst l i k).map (Value.int .i64)) rfl (hown.own.alloc _) ⟨wr.heap.size, 0, none⟩ 1 1 [.int .i64 y] rfl rfl ?c1 ?c2 ?c3 ?_)
              case c1 => exact cell_one_new _ _ _
              case c2 => exact ints_oneCell .i64 [y]
              case c3 => omega
              intro w2 hown2 hgrow2
              have hown3 := hown.push hown2 hgrow2
              clear hown2 hgrow2
              go_wp2
              go_roundw
              case rel => exact ⟨k + 1, m + 1, by omega, by omega, by go_num, rfl, by rw [R.out, HY.out]; exact hown3⟩
              case measure => simp [intOf]; omega
          · obtain rfl : k = n := by omega
            have hlen := hown.len
            have HLEN : Hid ((rst l i k).length = m) := hlen
            clear hlen
            go_wp2_with fail
            refine (f7_some w1.heap.size m k (rst l i k) _ (by omega) (fun _ => by exact hown.lt) (by exact hown.cell)).mono ?_
            rintro e w3 ⟨v, rfl, sb3, g3, cap3, rb3, rfl, hS3, hR3, hI3, hbel3⟩
            have h63 := f6_any sb3 g3 m cap3 rb3 (rst l i k) id w3 HLEN.out (by omega) hS3 hR3 hI3 HP3.out
            rw [HP4.out, HP5.out] at h63
            have HB3 : Hid (Below g w w3) := HB1.out.trans ((hown.bel.mono (by exact Nat.le_of_lt hgs1)).trans (hbel3.mono (by have := hown.lt; omega)))
            clear hS3 hR3 hI3 hbel3 hown
            go_wp2_with (go_at_call 6; refine h63.mono ?_; rintro e w3 ⟨rfl, rfl⟩)
            go_ret
            exact ⟨by simp, by rw [HG.out]; exact HB3.out⟩
      · -- it is not there
        have hf' : fnd l id = false := by simpa using hf
        obtain ⟨p1, p3, p4, p5⟩ := ins_law (i := lbd l id) HINC.out hf' rfl
        rw [hf'] at h6
        rw [HL.out] at p1 p3 p4 p5
        generalize hcn : lbd l id = i at h6 hcle p1 p3 p4 p5
        have HP3 : Hid (Inc (insTo l i id n)) := p3
        have HP4 : Hid (lbd (insTo l i id n) id = i) := p4
        have HP5 : Hid (fnd (insTo l i id n) id = true) := p5
        clear hcn p3 p4 p5 hf hf'
        have t1 : decide ((i : Int) < 0) = false := decide_eq_false (by omega)
        have t2 : decide (n < i) = false := decide_eq_false (by omega)
        have hmk := mk0 (n + 1) (by omega)
        rw [show (((n + 1 : Nat)) : Int) = (n : Int) + 1 by omega] at hmk
        have HST : Hid _ := OwnR.start w1 (n + 1) (by omega)
        obtain ⟨i0, hi, hz0, hz1, hz2⟩ := info_parts Try.info3
        go_wp2_with (go_at_call 6; refine h6.mono ?_; rintro e w1 ⟨rfl, rfl⟩)
        clear hmk h6 t1
        go_loopw [13, 14] (fun s13 s14 wr => ∃ k : Nat, k ≤ i ∧ s14 = .int .i64 k ∧ s13 = .slice (some ⟨w1.heap.size, 0, none⟩) k (n + 1) ∧ OwnR w1.heap.size w1 k (n + 1) (l.take k) wr) (fun s13 s14 wr => i - (intOf s14).toNat)
        case atStart => exact ⟨0, Nat.zero_le _, rfl, rfl, HST.out⟩
        case round =>
          obtain ⟨k, hk, rfl, rfl, hown⟩ := hrel
          by_cases hkn : k < i
          · have R : Hid (l.take (k + 1) = l.take k ++ [l.getD k 0]) := take_snoc_getD l k (by rw [HL.out]; omega)
            have c1 : wr.cell? ⟨g, k, none⟩ = some (.int .i64 (l.getD k 0)) := (hown.bel.cell (by exact hgs1)).trans (HC1.out k (by omega))
            generalize hy : l.getD k 0 = y at c1
            have HY : Hid (l.getD k 0 = y) := hy
            clear hy
            generalize hxs : l.take k = xs at hown
            have HXS : Hid (l.take k = xs) := hxs
            clear hxs
            go_wp2_with (at_builtin; refine wpList_append_fits _ rfl _ _ 22 rfl w1.heap.size 3 i0 1 Try.underlying22 hi hz1 w1.heap.size k (n + 1) (xs.map (Value.int .i64)) rfl (hown.own.alloc _) ⟨wr.heap.size, 0, none⟩ 1 1 [.int .i64 y] rfl rfl ?c1 ?c2 ?c3 ?_)
            case c1 => exact cell_one_new _ _ _
            case c2 => exact ints_oneCell .i64 [y]
            case c3 => omega
            intro w2 hown2 hgrow2
            have hown3 := hown.push hown2 hgrow2
            clear hown2 hgrow2
            go_wp2
            go_roundw
            case rel => exact ⟨k + 1, by omega, by go_num, rfl, by rw [R.out, HY.out, HXS.out]; exact hown3⟩
            case measure => simp [intOf]; omega
          · obtain rfl : k = i := by omega
            generalize hxs : l.take k = xs at hown
            have HXS : Hid (l.take k = xs) := hxs
            clear hxs
            go_wp2_with (at_builtin; refine wpList_append_fits _ rfl _ _ 22 rfl w1.heap.size 3 i0 1 Try.underlying22 hi hz1 w1.heap.size k (n + 1) (xs.map (Value.int .i64)) rfl (hown.own.alloc _) ⟨wr.heap.size, 0, none⟩ 1 1 [.int .i64 id] rfl rfl ?c1 ?c2 ?c3 ?_)
            case c1 => exact cell_one_new _ _ _
            case c2 => exact ints_oneCell .i64 [id]
            case c3 => omega
            intro w2 hown2 hgrow2
            have hown3 := hown.push hown2 hgrow2
            rw [← HXS.out, ← insTo_start l k id] at hown3
            have HO3 : Hid (OwnR w1.heap.size w1 (k + 1) (n + 1) (insTo l k id k) w2) := hown3
            clear hown2 hgrow2 hown3 hown
            go_wp2
            go_loopw [13, 15] (fun s13 s15 wr => ∃ p : Nat, k ≤ p ∧ p ≤ n ∧ s15 = .int .i64 p ∧ s13 = .slice (some ⟨w1.heap.size, 0, none⟩) (p + 1) (n + 1) ∧ OwnR w1.heap.size w1 (p + 1) (n + 1) (insTo l k id p) wr) (fun s13 s15 wr => n - (intOf s15).toNat)
            case atStart => exact ⟨k, Nat.le_refl _, p1, rfl, rfl, HO3.out⟩
            case round =>
              clear HO3
              obtain ⟨p, hkp, hp, rfl, rfl, hown⟩ := hrel
              by_cases hpn : p < n
              · have R : Hid (insTo l k id (p + 1) = insTo l k id p ++ [l.getD p 0]) := insTo_step l k p id (by rw [HL.out]; omega) hkp
                have c1 : wr.cell? ⟨g, p, none⟩ = some (.int .i64 (l.getD p 0)) := (hown.bel.cell (by exact hgs1)).trans (HC1.out p (by omega))
                generalize hy : l.getD p 0 = y at c1
                have HY : Hid (l.getD p 0 = y) := hy
                clear hy
                go_wp2_with (at_builtin; refine wpList_append_fits _ rfl _ _ 22 rfl w1.heap.size 3 i0 1 Try.underlying22 hi hz1 w1.heap.size (p + 1) (n + 1) ((insTo l k id p).map (Value.int .i64)) rfl (hown.own.alloc _) ⟨wr.heap.size, 0, none⟩ 1 1 [.int .i64 y] rfl rfl ?c1 ?c2 ?c3 ?_)
                case c1 => exact cell_one_new _ _ _
                case c2 => exact ints_oneCell .i64 [y]
                case c3 => omega
                intro w2 hown2 hgrow2
                have hown3 := hown.push hown2 hgrow2
                clear hown2 hgrow2
                go_wp2
                go_roundw
                case rel => exact ⟨p + 1, by omega, by omega, by go_num, rfl, by rw [R.out, HY.out]; exact hown3⟩
                case measure => simp [intOf]; omega
              · obtain rfl : p = n := by omega
                have hwsz := hown.lt
                have HCM : Hid (∀ i, i < p + 1 → wr.cell? ⟨w1.heap.size, i, none⟩ = some (.int .i64 ((insTo l k id p).getD i 0))) := hown.cell
                have HLM : Hid ((insTo l k id p).length = p + 1) := hown.len
                have HBM : Hid (Below w1.heap.size w1 wr) := hown.bel
                clear hown
                go_wp2
                go_loopw [16] (fun s16 wq => ∃ j : Nat, s16 = .int .i64 ((j : Int) + 1) ∧ j ≤ p ∧ ∃ q, wq = wr.drewN q) (fun s16 wq => p + 1 - (intOf s16).toNat)
                case atStart => exact ⟨0, rfl, Nat.zero_le _, 0, rfl⟩
                case round =>
                  obtain ⟨j, rfl, hj, q, rfl⟩ := hrel
                  by_cases hjp : j < p
                  · have c1 := HCM.out j (by omega)
                    have c2 := HCM.out (j + 1) (by omega)
                    have hab := HP3.out j (j + 1) (by omega) (by rw [HLM.out]; omega)
                    generalize ha : (insTo l k id p).getD j 0 = a at c1 hab
                    generalize hb : (insTo l k id p).getD (j + 1) 0 = b at c2 hab
                    clear ha hb
                    go_wp2
                    go_quiet (fail)
                    go_wp2
                    go_roundw
                    case rel => exact ⟨j + 1, by go_num, by omega, _, rfl⟩
                    case measure => simp [intOf]; omega
                  · obtain rfl : j = p := by omega
                    go_wp2_with fail
                    refine (f7_some w1.heap.size (j + 1) (j + 1) (insTo l k id j) _ (by omega) (fun _ => by exact hwsz) (by exact HCM.out)).mono ?_
                    rintro e w3 ⟨v, rfl, sb3, g3, cap3, rb3, rfl, hS3, hR3, hI3, hbel3⟩
                    have h63 := f6_any sb3 g3 (j + 1) cap3 rb3 (insTo l k id j) id w3 HLM.out (by omega) hS3 hR3 hI3 HP3.out
                    rw [HP4.out, HP5.out] at h63
                    have HB3 : Hid (Below g w w3) := HB1.out.trans ((below_drewN (HBM.out.mono (by exact Nat.le_of_lt hgs1)) q).trans (hbel3.mono (by exact Nat.le_trans (Nat.le_of_lt hgs1) (Nat.le_of_lt hwsz))))
                    clear hS3 hR3 hI3 hbel3
                    go_wp2_with (go_at_call 6; refine h63.mono ?_; rintro e w3 ⟨rfl, rfl⟩)
                    go_ret
                    exact ⟨by simp, by rw [HG.out]; exact HB3.out⟩

set_option maxHeartbeats 1000000 in
set_option maxRecDepth 100000 in
theorem f4_nil (id : Int) (w : World) :
    Calls Try.prog 4 #[.slice none 0 0, .int .i64 id] w fun e w' => e = .returned (.bool true) ∧ Below w.heap.size w w' := by
  have hne := fun w => run_neq_slice_nil_any (P := Try.prog) w 22 3 none 0 0 0 0 Try.underlying22
  have hmk : ∀ w, (Instr.makeSlice 22 (.int .i64 0) (.int .i64 1)).run Try.prog w = .ok (.slice (some ⟨w.heap.size, 0, none⟩) 0 1) (w.alloc (.cells (madeCells #[.int .i64 0] 1) 3)) := mk0 1 (by omega)
  obtain ⟨i0, hi, hz0, hz1, hz2⟩ := info_parts Try.info3
  go_enter Try.func4, Try.ntmps4
  go_wp2_with (go_at_call 8; refine (f8_any _ _ _ _ _ (by omega)).mono ?_; rintro e w ⟨rfl, rfl⟩)
  clear hne
  refine wp_loop_rounds 1 ?_
  rw [rounds_succ]
  go_wp2_with fail
  refine (f7_nil _).mono ?_
  rintro e w1 ⟨v, rfl, sb, g2, cap2, rb, rfl, hS, hR, hI2, hbel⟩
  have h6 : Calls Try.prog 6 #[.pointer (some ⟨sb, 0, none⟩), .int .i64 id] w1 fun e w' => e = .returned (.tuple #[.int .i64 0, .bool false]) ∧ w' = w1 := f6_any sb g2 0 cap2 rb [] id w1 rfl (by omega) hS hR hI2 (fun a b _ hb => absurd hb (Nat.not_lt_zero _))
  have HB1 : Hid (Below w.heap.size w w1) := hbel
  have hsz1 : w.heap.size ≤ w1.heap.size := hbel.size
  have HST : Hid _ := OwnR.start w1 1 (by omega)
  clear hS hR hI2 hbel
  go_wp2_with (go_at_call 6; refine h6.mono ?_; rintro e w1 ⟨rfl, rfl⟩)
  clear h6 hmk
  refine wp_loop_rounds 1 ?_
  rw [rounds_succ]
  have hown := HST.out
  generalize w1.alloc (.cells (madeCells #[.int .i64 0] 1) 3) = wr at hown ⊢
  go_wp2_with (at_builtin; refine wpList_append_fits _ rfl _ _ 22 rfl w1.heap.size 3 i0 1 Try.underlying22 hi hz1 w1.heap.size 0 1 [] rfl (hown.own.alloc _) ⟨wr.heap.size, 0, none⟩ 1 1 [.int .i64 id] rfl rfl ?c1 ?c2 ?c3 ?_)
  case c1 => exact cell_one_new _ _ _
  case c2 => exact ints_oneCell .i64 [id]
  case c3 => omega
  intro w2 hown2 hgrow2
  have hown3 := hown.push (y := id) hown2 hgrow2
  have HO3 : Hid (OwnR w1.heap.size w1 1 1 [id] w2) := hown3
  clear hown2 hgrow2 hown3 hown HST
  go_wp2
  refine wp_loop_rounds 1 ?_
  rw [rounds_succ]
  go_wp2
  refine wp_loop_rounds 1 ?_
  rw [rounds_succ]
  go_wp2_with fail
  refine (f7_some w1.heap.size 1 1 [id] _ (by omega) (fun _ => by exact HO3.out.lt) (by exact HO3.out.cell)).mono ?_
  rintro e w3 ⟨v, rfl, sb3, g3, cap3, rb3, rfl, hS3, hR3, hI3, hbel3⟩
  have h63 := f6_any sb3 g3 1 cap3 rb3 [id] id w3 rfl (by omega) hS3 hR3 hI3 (fun a b hab hb => by simp at hb; omega)
  rw [show lbd [id] id = 0 by simp [lbd], show fnd [id] id = true by simp [fnd]] at h63
  have HB3 : Hid (Below w.heap.size w w3) := HB1.out.trans ((HO3.out.bel.mono hsz1).trans (hbel3.mono (by have := HO3.out.lt; omega)))
  clear hS3 hR3 hI3 hbel3
  go_wp2_with (go_at_call 6; refine h63.mono ?_; rintro e w3 ⟨rfl, rfl⟩)
  go_ret
  exact ⟨by simp, HB3.out⟩

set_option maxHeartbeats 400000 in
set_option maxRecDepth 100000 in
theorem f4_long (a : Option Addr) (n cap : Nat) (id : Int) (w : World) (hn : 65536 < n) (hm : n ≤ maxLen) :
    Calls Try.prog 4 #[.slice a n cap, .int .i64 id] w fun e w' => e = .returned (.bool true) ∧ Below w.heap.size w w' := by
  unfold maxLen at hm
  by_cases h : n ≤ 1048576
  · go_enter Try.func4, Try.ntmps4
    go_wp2
    go_ret
    exact ⟨rfl, Below.refl _ _⟩
  · go_enter Try.func4, Try.ntmps4
    go_wp2
    go_ret
    exact ⟨rfl, Below.refl _ _⟩
end Go.Proofs.Qxb6616377a
