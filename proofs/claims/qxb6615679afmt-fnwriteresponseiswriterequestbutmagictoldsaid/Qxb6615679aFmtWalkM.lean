import Derived.Test.Qxb6615679aFmtWalkL
namespace Go.Proofs.Qxb6615679aFmt
open Go.RowKit
set_option linter.unusedVariables false
set_option linter.unusedSimpArgs false

set_option maxHeartbeats 4000000 in
set_option maxRecDepth 100000 in
/-- WriteResponse. -/
theorem f16_to (wb rb opc f6 opq cas : Nat) (a1 a2 a3 : Option Addr) (n1 n2 n3 c1 c2 c3 : Nat) (w : World) (Q : Value → World → Prop) (hr : w.heap[rb]? = some (.cells #[.int .u8 opc, .int .u16 f6, .int .u32 opq, .int .u64 cas, .slice a1 n1 c1, .slice a2 n2 c2, .slice a3 n3 c3] 41 (0, 0)))
    (h29 : Calls Tryf.prog 29 #[.pointer (some ⟨wb, 0, none⟩), .agg #[.int .u8 129, .int .u8 opc, .int .u16 0, .int .u8 0, .int .u8 0, .int .u16 f6, .int .u32 0, .int .u32 opq, .int .u64 cas], .slice a1 n1 c1, .slice a2 n2 c2, .slice a3 n3 c3] w.drew fun e w' => ∃ v, e = .returned v ∧ Q v w')
    (hQ : ∀ v w', Q v w' → w'.heap[rb]? = w.heap[rb]?) :
    Calls Tryf.prog 16 #[.pointer (some ⟨wb, 0, none⟩), .pointer (some ⟨rb, 0, none⟩)] w fun e w' => ∃ v, e = .returned v ∧ Q v w' := by
  have HS0 : Hid (w.drew.cell? ⟨rb, 0, none⟩ = some (.int .u8 opc) ∧ w.drew.cell? ⟨rb, 1, none⟩ = some (.int .u16 f6) ∧ w.drew.cell? ⟨rb, 2, none⟩ = some (.int .u32 opq) ∧ w.drew.cell? ⟨rb, 3, none⟩ = some (.int .u64 cas) ∧ w.drew.cell? ⟨rb, 4, none⟩ = some (.slice a1 n1 c1) ∧ w.drew.cell? ⟨rb, 5, none⟩ = some (.slice a2 n2 c2) ∧ w.drew.cell? ⟨rb, 6, none⟩ = some (.slice a3 n3 c3)) := ⟨cellRow hr 0, cellRow hr 1, cellRow hr 2, cellRow hr 3, cellRow hr 4, cellRow hr 5, cellRow hr 6⟩
  have HR := hide hr
  have HQ := hide hQ
  clear hr hQ
  go_enter Tryf.func16, Tryf.ntmps16
  go_wp2_with fail
  go_region_held3 (fun w' => w'.cell? ⟨rb, 0, none⟩ = some (.int .u8 opc) ∧ w'.cell? ⟨rb, 1, none⟩ = some (.int .u16 f6) ∧ w'.cell? ⟨rb, 2, none⟩ = some (.int .u32 opq) ∧ w'.cell? ⟨rb, 3, none⟩ = some (.int .u64 cas) ∧ w'.cell? ⟨rb, 4, none⟩ = some (.slice a1 n1 c1) ∧ w'.cell? ⟨rb, 5, none⟩ = some (.slice a2 n2 c2) ∧ w'.cell? ⟨rb, 6, none⟩ = some (.slice a3 n3 c3))
    (with_reducible (first | exact HS0.out | exact HS1.out))
    (first
      | (go_at_call 29; refine h29.mono ?_; rintro e w1 ⟨v, rfl, hq⟩; have hh := (HQ.out v w1 hq).trans HR.out; have HS1 : Hid (w1.cell? ⟨rb, 0, none⟩ = some (.int .u8 opc) ∧ w1.cell? ⟨rb, 1, none⟩ = some (.int .u16 f6) ∧ w1.cell? ⟨rb, 2, none⟩ = some (.int .u32 opq) ∧ w1.cell? ⟨rb, 3, none⟩ = some (.int .u64 cas) ∧ w1.cell? ⟨rb, 4, none⟩ = some (.slice a1 n1 c1) ∧ w1.cell? ⟨rb, 5, none⟩ = some (.slice a2 n2 c2) ∧ w1.cell? ⟨rb, 6, none⟩ = some (.slice a3 n3 c3)) := ⟨cellRow hh 0, cellRow hh 1, cellRow hh 2, cellRow hh 3, cellRow hh 4, cellRow hh 5, cellRow hh 6⟩; have HQ1 := hide hq; clear hq hh))
  go_wp2
  go_ret
  exact ⟨v, rfl, HQ1.out⟩

set_option maxHeartbeats 4000000 in
set_option maxRecDepth 100000 in
/-- WriteRequest. -/
theorem f26_to (wb rb opc dt f6 opq cas : Nat) (a1 a2 a3 : Option Addr) (n1 n2 n3 c1 c2 c3 : Nat) (w : World) (Q : Value → World → Prop) (hr : w.heap[rb]? = some (.cells #[.int .u8 opc, .int .u8 dt, .int .u16 f6, .int .u32 opq, .int .u64 cas, .slice a1 n1 c1, .slice a2 n2 c2, .slice a3 n3 c3, .bool false] 30 (0, 0)))
    (h29 : Calls Tryf.prog 29 #[.pointer (some ⟨wb, 0, none⟩), .agg #[.int .u8 128, .int .u8 opc, .int .u16 0, .int .u8 0, .int .u8 dt, .int .u16 f6, .int .u32 0, .int .u32 opq, .int .u64 cas], .slice a1 n1 c1, .slice a2 n2 c2, .slice a3 n3 c3] w.drew fun e w' => ∃ v, e = .returned v ∧ Q v w')
    (hQ : ∀ v w', Q v w' → w'.heap[rb]? = w.heap[rb]?) :
    Calls Tryf.prog 26 #[.pointer (some ⟨wb, 0, none⟩), .pointer (some ⟨rb, 0, none⟩)] w fun e w' => ∃ v, e = .returned v ∧ Q v w' := by
  have HS0 : Hid (w.drew.cell? ⟨rb, 0, none⟩ = some (.int .u8 opc) ∧ w.drew.cell? ⟨rb, 1, none⟩ = some (.int .u8 dt) ∧ w.drew.cell? ⟨rb, 2, none⟩ = some (.int .u16 f6) ∧ w.drew.cell? ⟨rb, 3, none⟩ = some (.int .u32 opq) ∧ w.drew.cell? ⟨rb, 4, none⟩ = some (.int .u64 cas) ∧ w.drew.cell? ⟨rb, 5, none⟩ = some (.slice a1 n1 c1) ∧ w.drew.cell? ⟨rb, 6, none⟩ = some (.slice a2 n2 c2) ∧ w.drew.cell? ⟨rb, 7, none⟩ = some (.slice a3 n3 c3)) := ⟨cellRow hr 0, cellRow hr 1, cellRow hr 2, cellRow hr 3, cellRow hr 4, cellRow hr 5, cellRow hr 6, cellRow hr 7⟩
  have HR := hide hr
  have HQ := hide hQ
  clear hr hQ
  go_enter Tryf.func26, Tryf.ntmps26
  go_wp2_with fail
  go_region_held3 (fun w' => w'.cell? ⟨rb, 0, none⟩ = some (.int .u8 opc) ∧ w'.cell? ⟨rb, 1, none⟩ = some (.int .u8 dt) ∧ w'.cell? ⟨rb, 2, none⟩ = some (.int .u16 f6) ∧ w'.cell? ⟨rb, 3, none⟩ = some (.int .u32 opq) ∧ w'.cell? ⟨rb, 4, none⟩ = some (.int .u64 cas) ∧ w'.cell? ⟨rb, 5, none⟩ = some (.slice a1 n1 c1) ∧ w'.cell? ⟨rb, 6, none⟩ = some (.slice a2 n2 c2) ∧ w'.cell? ⟨rb, 7, none⟩ = some (.slice a3 n3 c3))
    (with_reducible (first | exact HS0.out | exact HS1.out))
    (first
      | (go_at_call 29; refine h29.mono ?_; rintro e w1 ⟨v, rfl, hq⟩; have hh := (HQ.out v w1 hq).trans HR.out; have HS1 : Hid (w1.cell? ⟨rb, 0, none⟩ = some (.int .u8 opc) ∧ w1.cell? ⟨rb, 1, none⟩ = some (.int .u8 dt) ∧ w1.cell? ⟨rb, 2, none⟩ = some (.int .u16 f6) ∧ w1.cell? ⟨rb, 3, none⟩ = some (.int .u32 opq) ∧ w1.cell? ⟨rb, 4, none⟩ = some (.int .u64 cas) ∧ w1.cell? ⟨rb, 5, none⟩ = some (.slice a1 n1 c1) ∧ w1.cell? ⟨rb, 6, none⟩ = some (.slice a2 n2 c2) ∧ w1.cell? ⟨rb, 7, none⟩ = some (.slice a3 n3 c3)) := ⟨cellRow hh 0, cellRow hh 1, cellRow hh 2, cellRow hh 3, cellRow hh 4, cellRow hh 5, cellRow hh 6, cellRow hh 7⟩; have HQ1 := hide hq; clear hq hh))
  go_wp2
  go_ret
  exact ⟨v, rfl, HQ1.out⟩
end Go.Proofs.Qxb6615679aFmt
