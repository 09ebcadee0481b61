import Derived.Test.YbulkebiiDoorGood
namespace Go.Proofs.YbulkebiiDoor
open Go.RowKit
set_option linter.unusedVariables false

set_option maxHeartbeats 4000000 in
set_option maxRecDepth 100000 in
theorem readA {u0 u7 u8 u9 u10 u11 u12 u13 u14 u15 u16 u17 u18 u19 u20 u21 u22 u23 u24 u25 u26 u27 u28 u29 u30 u31 u32 u33 u34 u35 u36 u37 u38 u39 u40 u41 u42 u43 u44 u45 u46 u47 u48 u49 u50 : Value} (code flags vendor : Int) (a : Option Addr) (n c : Nat) (zs : List Int) (te : TypeId) (ev : Value) (p6 p4 : Addr) (w0 w : World) (g1 g2 g6 m fl fc : Nat) (fa : Option Addr)
    (hn : n = zs.length) (hb : Below w0.heap.size w0 w) (hz : Zs w p6 p4) (k0 : w.cell? ⟨0, 0, none⟩ = some (.iface te ev))
    (h1 : w.heap[g1]? = some (.cells #[.int .u32 code, .int .u8 flags, .int .u32 vendor, .slice a n c] 26 (0, 0))) (h2 : w.heap[g2]? = some (.cells #[.int .u64 0, .int .u64 0, .pointer none, .int .u8 0] 36 (0, 0))) (h6 : w.heap[g6]? = some (.cells #[.int .u8 (padI zs 0), .int .u8 (padI zs 1), .int .u8 (padI zs 2), .int .u8 (padI zs 3), .int .u8 (padI zs 4), .int .u8 (padI zs 5), .int .u8 (padI zs 6), .int .u8 (padI zs 7), .int .u8 (padI zs 8), .int .u8 (padI zs 9), .int .u8 (padI zs 10), .int .u8 (padI zs 11), .int .u8 (padI zs 12), .int .u8 (padI zs 13), .int .u8 (padI zs 14), .int .u8 (padI zs 15)] 42 (0, 0)))
    (h20 : w0.heap.size ≤ g2) (h12 : g1 ≠ g2) (hfl : fl = zs.length - 2) (hm : m = bitsN zs) (hzs : ∀ z ∈ zs, byte z) (hl2 : 2 ≤ zs.length) (hl18 : zs.length ≤ 18) :
    Code.wp Ybad.prog (dropSeq 5 (Ybad.f5.body.getD .skip)) (bodyPost Ybad.prog Ybad.f5 (ReadPost w0 code flags vendor a c zs te ev p6))
      ⟨#[u0, .pointer (some ⟨g1, 0, none⟩), .pointer (some ⟨g2, 0, none⟩), .nilIface, .int .i64 m, .slice fa fl fc, .pointer (some ⟨g6, 0, none⟩), u7, u8, u9, u10, u11, u12, u13, u14, u15, u16, u17, u18, u19, u20, u21, u22, u23, u24, u25, u26, u27, u28, u29, u30, u31, u32, u33, u34, u35, u36, u37, u38, u39, u40, u41, u42, u43, u44, u45, u46, u47, u48, u49, u50], []⟩ w := by
  conv => arg 2; whnf
  obtain ⟨y0, hy0⟩ : ∃ y, y = padI zs 0 := ⟨_, rfl⟩
  obtain ⟨y1, hy1⟩ : ∃ y, y = padI zs 1 := ⟨_, rfl⟩
  obtain ⟨y2, hy2⟩ : ∃ y, y = padI zs 2 := ⟨_, rfl⟩
  obtain ⟨y3, hy3⟩ : ∃ y, y = padI zs 3 := ⟨_, rfl⟩
  obtain ⟨y4, hy4⟩ : ∃ y, y = padI zs 4 := ⟨_, rfl⟩
  obtain ⟨y5, hy5⟩ : ∃ y, y = padI zs 5 := ⟨_, rfl⟩
  obtain ⟨y6, hy6⟩ : ∃ y, y = padI zs 6 := ⟨_, rfl⟩
  obtain ⟨y7, hy7⟩ : ∃ y, y = padI zs 7 := ⟨_, rfl⟩
  obtain ⟨y8, hy8⟩ : ∃ y, y = padI zs 8 := ⟨_, rfl⟩
  obtain ⟨y9, hy9⟩ : ∃ y, y = padI zs 9 := ⟨_, rfl⟩
  obtain ⟨y10, hy10⟩ : ∃ y, y = padI zs 10 := ⟨_, rfl⟩
  obtain ⟨y11, hy11⟩ : ∃ y, y = padI zs 11 := ⟨_, rfl⟩
  obtain ⟨y12, hy12⟩ : ∃ y, y = padI zs 12 := ⟨_, rfl⟩
  obtain ⟨y13, hy13⟩ : ∃ y, y = padI zs 13 := ⟨_, rfl⟩
  obtain ⟨y14, hy14⟩ : ∃ y, y = padI zs 14 := ⟨_, rfl⟩
  obtain ⟨y15, hy15⟩ : ∃ y, y = padI zs 15 := ⟨_, rfl⟩
  have x0 : w.cell? ⟨g6, 0, none⟩ = some (.int .u8 y0) := by rw [cell_of_row w g6 _ _ _ _ h6, hy0]; rfl
  have x1 : w.cell? ⟨g6, 1, none⟩ = some (.int .u8 y1) := by rw [cell_of_row w g6 _ _ _ _ h6, hy1]; rfl
  have x2 : w.cell? ⟨g6, 2, none⟩ = some (.int .u8 y2) := by rw [cell_of_row w g6 _ _ _ _ h6, hy2]; rfl
  have x3 : w.cell? ⟨g6, 3, none⟩ = some (.int .u8 y3) := by rw [cell_of_row w g6 _ _ _ _ h6, hy3]; rfl
  have x4 : w.cell? ⟨g6, 4, none⟩ = some (.int .u8 y4) := by rw [cell_of_row w g6 _ _ _ _ h6, hy4]; rfl
  have x5 : w.cell? ⟨g6, 5, none⟩ = some (.int .u8 y5) := by rw [cell_of_row w g6 _ _ _ _ h6, hy5]; rfl
  have x6 : w.cell? ⟨g6, 6, none⟩ = some (.int .u8 y6) := by rw [cell_of_row w g6 _ _ _ _ h6, hy6]; rfl
  have x7 : w.cell? ⟨g6, 7, none⟩ = some (.int .u8 y7) := by rw [cell_of_row w g6 _ _ _ _ h6, hy7]; rfl
  have x8 : w.cell? ⟨g6, 8, none⟩ = some (.int .u8 y8) := by rw [cell_of_row w g6 _ _ _ _ h6, hy8]; rfl
  have x9 : w.cell? ⟨g6, 9, none⟩ = some (.int .u8 y9) := by rw [cell_of_row w g6 _ _ _ _ h6, hy9]; rfl
  have x10 : w.cell? ⟨g6, 10, none⟩ = some (.int .u8 y10) := by rw [cell_of_row w g6 _ _ _ _ h6, hy10]; rfl
  have x11 : w.cell? ⟨g6, 11, none⟩ = some (.int .u8 y11) := by rw [cell_of_row w g6 _ _ _ _ h6, hy11]; rfl
  have x12 : w.cell? ⟨g6, 12, none⟩ = some (.int .u8 y12) := by rw [cell_of_row w g6 _ _ _ _ h6, hy12]; rfl
  have x13 : w.cell? ⟨g6, 13, none⟩ = some (.int .u8 y13) := by rw [cell_of_row w g6 _ _ _ _ h6, hy13]; rfl
  have x14 : w.cell? ⟨g6, 14, none⟩ = some (.int .u8 y14) := by rw [cell_of_row w g6 _ _ _ _ h6, hy14]; rfl
  have x15 : w.cell? ⟨g6, 15, none⟩ = some (.int .u8 y15) := by rw [cell_of_row w g6 _ _ _ _ h6, hy15]; rfl
  have hmb : (0 : Int) ≤ (m : Int) ∧ (m : Int) < 256 := by
    rw [hm]
    have : byte (zs.getD 1 0) := by
      rw [List.getD, List.getElem?_eq_getElem (by omega)]
      exact hzs _ (List.getElem_mem _)
    unfold byte at this
    unfold bitsN
    omega
  have HA := hid (fun W h => addrFrom16_any y0 y1 y2 y3 y4 y5 y6 y7 y8 y9 y10 y11 y12 y13 y14 y15 p6 p4 W h (by rw [hy0]; exact padI_byte zs hzs 0) (by rw [hy1]; exact padI_byte zs hzs 1) (by rw [hy2]; exact padI_byte zs hzs 2) (by rw [hy3]; exact padI_byte zs hzs 3) (by rw [hy4]; exact padI_byte zs hzs 4) (by rw [hy5]; exact padI_byte zs hzs 5) (by rw [hy6]; exact padI_byte zs hzs 6) (by rw [hy7]; exact padI_byte zs hzs 7) (by rw [hy8]; exact padI_byte zs hzs 8) (by rw [hy9]; exact padI_byte zs hzs 9) (by rw [hy10]; exact padI_byte zs hzs 10) (by rw [hy11]; exact padI_byte zs hzs 11) (by rw [hy12]; exact padI_byte zs hzs 12) (by rw [hy13]; exact padI_byte zs hzs 13) (by rw [hy14]; exact padI_byte zs hzs 14) (by rw [hy15]; exact padI_byte zs hzs 15))
  have l2 : g2 < w.heap.size := lt_of_block h2
  have HZ := hid hz
  have H1 := hid h1
  have H2 := hid h2
  have K0 := hid k0
  have HB := hid hb
  have HN := hid hn
  have HF := hid hfl
  have HMM := hid hm
  have HZS := hid hzs
  have HL2 := hid hl2
  have HL18 := hid hl18
  have HI : Hid (be8 y0 y1 y2 y3 y4 y5 y6 y7 = be8 (padI zs 0) (padI zs 1) (padI zs 2) (padI zs 3) (padI zs 4) (padI zs 5) (padI zs 6) (padI zs 7)) := by show _ = _; rw [hy0, hy1, hy2, hy3, hy4, hy5, hy6, hy7]
  have LO : Hid (be8 y8 y9 y10 y11 y12 y13 y14 y15 = be8 (padI zs 8) (padI zs 9) (padI zs 10) (padI zs 11) (padI zs 12) (padI zs 13) (padI zs 14) (padI zs 15)) := by show _ = _; rw [hy8, hy9, hy10, hy11, hy12, hy13, hy14, hy15]
  clear hn hb hz k0 h1 h2 h6 hfl hm hzs hl2 hl18 hy0 hy1 hy2 hy3 hy4 hy5 hy6 hy7 hy8 hy9 hy10 hy11 hy12 hy13 hy14 hy15
  dsimp only
  go_upto_region 6 with fail
  go_cut [7] (fun v wc => ∃ g7, v = .pointer (some ⟨g7, 0, none⟩) ∧ w.heap.size ≤ g7 ∧ wc.heap[g7]? = some (.cells #[.int .u64 (be8 y0 y1 y2 y3 y4 y5 y6 y7), .int .u64 (be8 y8 y9 y10 y11 y12 y13 y14 y15), .pointer (some p6), .int .u8 (plusOne m)] 36 (0, 0)) ∧ Below w.heap.size w wc)
  case first =>
    go_wp2_with fail
    refine (HA.out _ HZ.out).mono ?_
    rintro e w1 ⟨rfl, hb1⟩
    have HB1 := hid hb1
    clear hb1
    go_wp2_with fail
    refine (prefixFrom_any _ _ (m : Int) p6 p4 w1 (HZ.out.later HB1.out) hmb.1 hmb.2).mono ?_
    rintro e w2 ⟨rfl, rfl⟩
    clear HA HZ
    go_wp2
    go_meet
    case rel => exact ⟨_, rfl, by have := HB1.out.size; omega, heap_at _ _ _ (by simp), HB1.out.trans (Below.mono (B := w1.heap.size) (by repeat' (first | exact Below.refl _ _ | assumption | refine Below.setCell ?_ ?_ _ | refine quiet_below _ _ ?_ _ | refine Below.drew ?_ | refine Below.alloc ?_ ?_ _ | go_size)) HB1.out.size)⟩
  case rest =>
    obtain ⟨g7, rfl, hg7, h7, hbc⟩ := hcut
    rw [HI.out, LO.out] at h7
    have a1 := (hbc.block _ (lt_of_block H1.out)).trans H1.out
    have a2 := (hbc.block _ l2).trans H2.out
    have ak := cell_later hbc K0.out
    have az := HZ.out.later hbc
    have ab := HB.out.trans (hbc.mono HB.out.size)
    go_step
    by_cases hlt : fl * 8 < m
    · exact readB1 code flags vendor a n c zs te ev p6 p4 w0 wc g1 g2 g7 m fl fc fa _ _ HN.out ab az ak a1 a2 h7 h20 (by omega) h12 (by rw [HF.out]; have := HL18.out; omega) hlt (good_long zs (by rw [← HF.out, ← HMM.out]; exact hlt))
    · have hle : m ≤ fl * 8 := by omega
      have hgi := good_iff zs HZS.out HL2.out HL18.out (by rw [← HF.out, ← HMM.out]; exact hle)
      rw [← HMM.out] at hgi
      have hfl16 : fl ≤ 16 := by rw [HF.out]; have := HL18.out; omega
      cases e1 : (bits .and .u64 (be8 (padI zs 0) (padI zs 1) (padI zs 2) (padI zs 3) (padI zs 4) (padI zs 5) (padI zs 6) (padI zs 7)) (maskHi m) == be8 (padI zs 0) (padI zs 1) (padI zs 2) (padI zs 3) (padI zs 4) (padI zs 5) (padI zs 6) (padI zs 7)) with
      | false =>
        rw [e1] at hgi
        exact readB2 code flags vendor a n c zs te ev p6 p4 w0 wc g1 g2 g7 m fl fc fa _ _ HN.out ab az ak a1 a2 h7 h20 (by omega) h12 hfl16 hle hgi e1
      | true =>
        cases e2 : (bits .and .u64 (be8 (padI zs 8) (padI zs 9) (padI zs 10) (padI zs 11) (padI zs 12) (padI zs 13) (padI zs 14) (padI zs 15)) (maskLo m) == be8 (padI zs 8) (padI zs 9) (padI zs 10) (padI zs 11) (padI zs 12) (padI zs 13) (padI zs 14) (padI zs 15)) with
        | false =>
          rw [e1, e2] at hgi
          exact readB3 code flags vendor a n c zs te ev p6 p4 w0 wc g1 g2 g7 m fl fc fa _ _ HN.out ab az ak a1 a2 h7 h20 (by omega) h12 hfl16 hle hgi e1 e2
        | true =>
          rw [e1, e2] at hgi
          exact readB4 code flags vendor a n c zs te ev p6 p4 w0 wc g1 g2 g7 m fl fc fa _ _ HN.out ab az ak a1 a2 h7 h20 (by omega) h12 hfl16 hle hgi rfl rfl HMM.out e1 e2
end Go.Proofs.YbulkebiiDoor
