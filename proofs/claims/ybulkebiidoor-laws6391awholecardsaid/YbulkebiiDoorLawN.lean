import Derived.Test.YbulkebiiDoorLawO
namespace Go.Proofs.YbulkebiiDoor
open Go.RowKit
set_option linter.unusedVariables false

set_option maxHeartbeats 4000000 in
set_option maxRecDepth 100000 in
theorem lawN {u4 u5 u6 u7 u8 u10 u11 u12 u13 u14 u15 u16 u17 u18 u19 u20 u21 u22 u23 u24 u25 u26 u27 u28 u29 u30 u31 u32 u33 u34 u35 u36 u37 u38 u39 u40 u41 u42 u43 u44 u45 u46 u47 u48 u49 u50 u51 u52 u53 u54 u55 u56 u57 u58 u59 u60 u61 u62 u63 u64 u65 u66 u67 u68 u69 u70 u71 u72 u73 u74 u75 u76 u77 u78 u79 u80 u81 u82 u83 u84 u85 u86 u87 u88 u89 u90 u91 u92 u93 u94 u95 u96 u97 u98 u99 u100 u101 u102 u103 u104 u105 u106 u107 u108 u109 u110 u111 u112 u113 u114 u115 u116 u117 u118 u119 u120 u121 u122 u123 u124 u125 u126 u127 u128 u129 u130 u131 u132 u133 u134 u135 u136 u137 u138 u139 u140 u141 u142 u143 u144 u145 u146 u147 u148 u149 u150 u151 u152 u153 u154 u155 u156 u157 u158 u159 u160 u161 u162 u163 u164 u165 u166 u167 u168 u169 u170 u171 u172 u173 u174 u175 u176 u177 u178 u179 u180 u181 u182 u183 : Value} (code flags vendor : Int) (a a2 : Option Addr) (pe p6 p4 : Addr) (zs : List Int) (n c c2 : Nat) (w0 w : World) (hn : n = zs.length) (hb : Below w0.heap.size w0 w) (hxa : Byt w0 a zs) (hx2 : Byt w a2 zs) (hca : n ≤ c) (hcam : c ≤ maxLen) (hc : n ≤ c2) (hcm : c2 ≤ maxLen) (hzs : ∀ z ∈ zs, byte z) (k0 : w0.cell? ⟨0, 0, none⟩ = some (.iface 94 (.pointer (some pe)))) (hz : Zs w0 p6 p4) :
    Code.wp Ybad.prog (dropSeq 4 (Ybad.f3.body.getD .skip)) (bodyPost Ybad.prog Ybad.f3 (fun e w' => e = .returned (.bool true) ∧ Below w0.heap.size w0 w'))
      ⟨#[.int .u32 code, .int .u8 flags, .int .u32 vendor, .slice a n c, u4, u5, u6, u7, u8, .slice a2 n c2, u10, u11, u12, u13, u14, u15, u16, u17, u18, u19, u20, u21, u22, u23, u24, u25, u26, u27, u28, u29, u30, u31, u32, u33, u34, u35, u36, u37, u38, u39, u40, u41, u42, u43, u44, u45, u46, u47, u48, u49, u50, u51, u52, u53, u54, u55, u56, u57, u58, u59, u60, u61, u62, u63, u64, u65, u66, u67, u68, u69, u70, u71, u72, u73, u74, u75, u76, u77, u78, u79, u80, u81, u82, u83, u84, u85, u86, u87, u88, u89, u90, u91, u92, u93, u94, u95, u96, u97, u98, u99, u100, u101, u102, u103, u104, u105, u106, u107, u108, u109, u110, u111, u112, u113, u114, u115, u116, u117, u118, u119, u120, u121, u122, u123, u124, u125, u126, u127, u128, u129, u130, u131, u132, u133, u134, u135, u136, u137, u138, u139, u140, u141, u142, u143, u144, u145, u146, u147, u148, u149, u150, u151, u152, u153, u154, u155, u156, u157, u158, u159, u160, u161, u162, u163, u164, u165, u166, u167, u168, u169, u170, u171, u172, u173, u174, u175, u176, u177, u178, u179, u180, u181, u182, u183], []⟩ w := by
  conv => arg 2; whnf
  have HRD : Hid (∀ W, Below w0.heap.size w0 W → Calls Ybad.prog 5 #[.agg #[.int .u32 code, .int .u8 flags, .int .u32 vendor, .slice a n c]] W (ReadPost W code flags vendor a c zs 94 (.pointer (some pe)) p6)) := hid (fun W h => by rw [hn]; exact read_any code flags vendor a c zs 94 (.pointer (some pe)) p6 p4 W (by omega) hcam hzs (hz.later h) (cell_later h k0) (hxa.later h))
  have HN := hid hn
  have HB := hid hb
  have HXA := hid hxa
  have HX2 := hid hx2
  have HZS := hid hzs
  have K0 := hid k0
  have hsz := hb.size
  have HC := hid hc
  have HCM := hid hcm
  clear hn hb hxa hx2 hc hcm hzs k0 hz hca hcam
  dsimp only
  go_upto_region 8 with fail
  go_cut [11, 12] (fun v11 v12 wc => ∃ g11, v11 = .pointer (some ⟨g11, 0, none⟩) ∧ Readout wc code flags vendor a c zs pe p6 v12 g11 wc.heap.size ∧ Below w.heap.size w wc)
  case first =>
    go_wp2_with fail
    refine (HRD.out _ ?_).mono ?_
    · exact HB.out.trans ((show Below w.heap.size w _ from (by repeat' (first | exact Below.refl _ _ | assumption | refine Below.setCell ?_ ?_ _ | refine quiet_below _ _ ?_ _ | refine Below.drew ?_ | refine Below.alloc ?_ ?_ _ | go_size))).mono hsz)
    · rintro e w2 ⟨hb2, hif⟩
      have hb3 : Below w.heap.size w w2 := (show Below w.heap.size w _ from (by repeat' (first | exact Below.refl _ _ | assumption | refine Below.setCell ?_ ?_ _ | refine quiet_below _ _ ?_ _ | refine Below.drew ?_ | refine Below.alloc ?_ ?_ _ | go_size))).trans (hb2.mono (by simp))
      have HB3 := hid hb3
      clear hb2 hb3 HRD
      by_cases hg : good zs = true
      · rw [if_pos hg] at hif
        obtain ⟨hi, hhi⟩ : ∃ x, x = be8 (padI zs 0) (padI zs 1) (padI zs 2) (padI zs 3) (padI zs 4) (padI zs 5) (padI zs 6) (padI zs 7) := ⟨_, rfl⟩
        obtain ⟨lo, hlo⟩ : ∃ x, x = be8 (padI zs 8) (padI zs 9) (padI zs 10) (padI zs 11) (padI zs 12) (padI zs 13) (padI zs 14) (padI zs 15) := ⟨_, rfl⟩
        obtain ⟨bp, hbp⟩ : ∃ x, x = (bitsN zs : Int) + 1 := ⟨_, rfl⟩
        rw [← hhi, ← hlo, ← hbp] at hif
        subst hif
        have HHI := hid hhi
        have HLO := hid hlo
        have HBP := hid hbp
        clear hhi hlo hbp
        go_wp2
        go_meet
        case rel =>
          refine ⟨w2.heap.size, rfl, ⟨by go_size, ?_⟩, ?_⟩
          · rw [if_pos hg, ← HHI.out, ← HLO.out, ← HBP.out]
            exact ⟨rfl, heap_at _ _ _ rfl⟩
          · refine HB3.out.trans (Below.mono (B := w2.heap.size) ?_ HB3.out.size)
            exact (by repeat' (first | exact Below.refl _ _ | assumption | refine Below.setCell ?_ ?_ _ | refine quiet_below _ _ ?_ _ | refine Below.drew ?_ | refine Below.alloc ?_ ?_ _ | go_size))
      · rw [if_neg hg] at hif
        obtain ⟨g, rfl, hgw, hgb⟩ := hif
        have HGB := hid hgb
        clear hgb hgw
        go_wp2
        go_meet
        case rel =>
          refine ⟨w2.heap.size, rfl, ⟨by go_size, ?_⟩, ?_⟩
          · rw [if_neg hg]
            refine ⟨g, ?_, rfl, heap_at _ _ _ rfl, ?_⟩
            · have := lt_of_block HGB.out
              go_size
            · exact (Below.block (B := w2.heap.size) (w := w2) (by repeat' (first | exact Below.refl _ _ | assumption | refine Below.setCell ?_ ?_ _ | refine quiet_below _ _ ?_ _ | refine Below.drew ?_ | refine Below.alloc ?_ ?_ _ | go_size)) _ (lt_of_block HGB.out)).trans HGB.out
          · refine HB3.out.trans (Below.mono (B := w2.heap.size) ?_ HB3.out.size)
            exact (by repeat' (first | exact Below.refl _ _ | assumption | refine Below.setCell ?_ ?_ _ | refine quiet_below _ _ ?_ _ | refine Below.drew ?_ | refine Below.alloc ?_ ?_ _ | go_size))
  case rest =>
    obtain ⟨g11, rfl, hr, hbc⟩ := hcut
    go_step
    exact lawO code flags vendor a a2 _ pe p6 zs n c c2 g11 w0 wc HN.out (HB.out.trans (hbc.mono hsz)) HXA.out (HX2.out.later hbc) HC.out HCM.out HZS.out K0.out hr
end Go.Proofs.YbulkebiiDoor
