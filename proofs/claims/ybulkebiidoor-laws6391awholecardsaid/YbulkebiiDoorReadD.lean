import Derived.Test.YbulkebiiDoorReadC
namespace Go.Proofs.YbulkebiiDoor
open Go.RowKit
set_option linter.unusedVariables false

set_option maxHeartbeats 4000000 in
set_option maxRecDepth 100000 in
theorem readB4 {u0 u6 u8 u9 u10 u11 u12 u13 u14 u15 u16 u17 u18 u19 u20 u21 u22 u23 u24 u25 u26 u27 u28 u29 u30 u31 u32 u33 u34 u35 u36 u37 u38 u39 u40 u41 u42 u43 u44 u45 u46 u47 u48 u49 u50 : Value} (code flags vendor : Int) (a : Option Addr) (n c : Nat) (zs : List Int) (te : TypeId) (ev : Value) (p6 p4 : Addr) (w0 w : World) (g1 g2 g7 m fl fc : Nat) (fa : Option Addr) (hi lo : Int)
    (hn : n = zs.length) (hb : Below w0.heap.size w0 w) (hz : Zs w p6 p4) (k0 : w.cell? ⟨0, 0, none⟩ = some (.iface te ev))
    (h1 : w.heap[g1]? = some (.cells #[.int .u32 code, .int .u8 flags, .int .u32 vendor, .slice a n c] 26 (0, 0))) (h2 : w.heap[g2]? = some (.cells #[.int .u64 0, .int .u64 0, .pointer none, .int .u8 0] 36 (0, 0))) (h7 : w.heap[g7]? = some (.cells #[.int .u64 hi, .int .u64 lo, .pointer (some p6), .int .u8 (plusOne m)] 36 (0, 0)))
    (h20 : w0.heap.size ≤ g2) (h27 : g2 ≠ g7) (h12 : g1 ≠ g2) (hfl : fl ≤ 16) (hle : m ≤ fl * 8) (hg : good zs = true) (hhi : hi = be8 (padI zs 0) (padI zs 1) (padI zs 2) (padI zs 3) (padI zs 4) (padI zs 5) (padI zs 6) (padI zs 7)) (hlo : lo = be8 (padI zs 8) (padI zs 9) (padI zs 10) (padI zs 11) (padI zs 12) (padI zs 13) (padI zs 14) (padI zs 15)) (hmm : m = bitsN zs) (heq : (bits .and .u64 hi (maskHi m) == hi) = true) (heq2 : (bits .and .u64 lo (maskLo m) == lo) = true) :
    Code.wp Ybad.prog (dropSeq 6 (Ybad.f5.body.getD .skip)) (bodyPost Ybad.prog Ybad.f5 (ReadPost w0 code flags vendor a c zs te ev p6))
      ⟨#[u0, .pointer (some ⟨g1, 0, none⟩), .pointer (some ⟨g2, 0, none⟩), .nilIface, .int .i64 m, .slice fa fl fc, u6, .pointer (some ⟨g7, 0, none⟩), u8, u9, u10, u11, u12, u13, u14, u15, u16, u17, u18, u19, u20, u21, u22, u23, u24, u25, u26, u27, u28, u29, u30, u31, u32, u33, u34, u35, u36, u37, u38, u39, u40, u41, u42, u43, u44, u45, u46, u47, u48, u49, u50], []⟩ w := by
  conv => arg 2; whnf
  have e1 : plusOne (m : Int) = (m : Int) + 1 := by simp [plusOne]; omega
  rw [e1] at h7
  clear e1
  have t0 : w.cell? ⟨g7, 0, none⟩ = some (.int .u64 hi) := by rw [cell_of_row w g7 _ _ _ _ h7]; rfl
  have t1 : w.cell? ⟨g7, 1, none⟩ = some (.int .u64 lo) := by rw [cell_of_row w g7 _ _ _ _ h7]; rfl
  have t2 : w.cell? ⟨g7, 2, none⟩ = some (.pointer (some p6)) := by rw [cell_of_row w g7 _ _ _ _ h7]; rfl
  have t3 : w.cell? ⟨g7, 3, none⟩ = some (.int .u8 ((m : Int) + 1)) := by rw [cell_of_row w g7 _ _ _ _ h7]; rfl
  have r0 : w.cell? ⟨g1, 0, none⟩ = some (.int .u32 code) := by rw [cell_of_row w g1 _ _ _ _ h1]; rfl
  have r1 : w.cell? ⟨g1, 1, none⟩ = some (.int .u8 flags) := by rw [cell_of_row w g1 _ _ _ _ h1]; rfl
  have r2 : w.cell? ⟨g1, 2, none⟩ = some (.int .u32 vendor) := by rw [cell_of_row w g1 _ _ _ _ h1]; rfl
  have r3 : w.cell? ⟨g1, 3, none⟩ = some (.slice a n c) := by rw [cell_of_row w g1 _ _ _ _ h1]; rfl
  have hd : decide ((fl : Int) * 8 < (m : Int)) = false := by simp; omega
  have hw : IntKind.i64.wrap ((fl : Int) * 8) = (fl : Int) * 8 := by rw [IntKind.wrap_i64]; omega
  have qs := eqIn_same p6
  have HN := hid hn
  have HG := hid hg
  have HHI := hid hhi
  have HLO := hid hlo
  have HMM := hid hmm
  clear hhi hlo hmm
  have HB := hid hb
  have H2 := hid h2
  have K0 := hid k0
  have H7 := hid h7
  have HM := hid (fun W h => masked_any hi lo m p6 p4 W h (show m ≤ 128 by omega))
  have HZ := hid hz
  have l0 : 0 < w.heap.size := World.block_lt_of_cell? _ _ k0
  have l2 : g2 < w.heap.size := lt_of_block h2
  have hsz : w0.heap.size ≤ w.heap.size := hb.size
  clear hn hg hb h1 h2 h7 k0 hz
  dsimp only
  go_wp2
  go_region_held3 (fun w' => w'.cell? ⟨g7, 0, none⟩ = some (.int .u64 hi) ∧ w'.cell? ⟨g7, 1, none⟩ = some (.int .u64 lo) ∧ w'.cell? ⟨g7, 2, none⟩ = some (.pointer (some p6)) ∧ w'.cell? ⟨g7, 3, none⟩ = some (.int .u8 ((m : Int) + 1))) (refine ⟨?_, ?_, ?_, ?_⟩ <;> (first | (go_keep; done) | (simp [*, go_sem]; done)))
    (first | (go_at_call 18; refine (HM.out _ (HZ.out.later (by repeat' (first | exact Below.refl _ _ | assumption | refine Below.setCell ?_ ?_ _ | refine quiet_below _ _ ?_ _ | refine Below.drew ?_ | refine Below.alloc ?_ ?_ _ | go_size)))).mono ?_; rintro e w3 ⟨rfl, hb3⟩; have s0 := cell_later hb3 r0; have s1 := cell_later hb3 r1; have s2 := cell_later hb3 r2; have s3 := cell_later hb3 r3; have v0 := cell_later hb3 t0; have v1 := cell_later hb3 t1; have v2 := cell_later hb3 t2; have v3 := cell_later hb3 t3))
  have hb4 : Below w.heap.size w w3 := ⟨hb3.os, hb3.tape, hb3.output, hb3.size, hb3.block⟩
  have HB4 := hid hb4
  clear hb3 hb4 HM
  go_wp2_with (refine wpList_store_whole _ rfl 36 (.tmp 2) (.tmp 50) rfl g2 #[.int .u64 0, .int .u64 0, .pointer none, .int .u8 0] #[.int .u64 hi, .int .u64 lo, .pointer (some p6), .int .u8 ((m : Int) + 1)] 36 rfl rfl ?hst rfl Ybad.size36 (by simp [Value.oneCell']) w0.heap.size w0 ?hbb h20 ?_)
  case hst => exact (HB4.out.block _ l2).trans H2.out
  case hbb => exact HB.out.trans (HB4.out.mono hsz)
  intro w6 h6 hb6 hk6
  go_wp2
  refine bodyPost_ret (v := .tuple #[.agg #[.int .u64 hi, .int .u64 lo, .pointer (some p6), .int .u8 ((m : Int) + 1)], .nilIface]) ?_ rfl ⟨hb6.out, ?_⟩
  · have q0 : w6.cell? ⟨g2, 0, none⟩ = some (.int .u64 hi) := by rw [cell_of_row w6 g2 _ _ _ _ h6.out]; rfl
    have q1 : w6.cell? ⟨g2, 1, none⟩ = some (.int .u64 lo) := by rw [cell_of_row w6 g2 _ _ _ _ h6.out]; rfl
    have q2 : w6.cell? ⟨g2, 2, none⟩ = some (.pointer (some p6)) := by rw [cell_of_row w6 g2 _ _ _ _ h6.out]; rfl
    have q3 : w6.cell? ⟨g2, 3, none⟩ = some (.int .u8 ((m : Int) + 1)) := by rw [cell_of_row w6 g2 _ _ _ _ h6.out]; rfl
    simp [results, Ybad.results5, go_sem, q0, q1, q2, q3]
  · rw [if_pos HG.out, ← HHI.out, ← HLO.out, ← HMM.out]
end Go.Proofs.YbulkebiiDoor
