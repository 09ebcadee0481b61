import Derived.Test.YbulkebiiDoorLawL
namespace Go.Proofs.YbulkebiiDoor
open Go.RowKit
set_option linter.unusedVariables false

theorem Readout.later {w W : World} {code flags vendor : Int} {a : Option Addr} {c : Nat} {zs : List Int} {pe p6 : Addr} {e12 : Value} {g11 : Nat} (h : Readout w code flags vendor a c zs pe p6 e12 g11 w.heap.size) (hb : Below w.heap.size w W) : Readout W code flags vendor a c zs pe p6 e12 g11 w.heap.size := by
  obtain ⟨h1, h2⟩ := h
  refine ⟨h1, ?_⟩
  split at h2
  · next hg => rw [if_pos hg]; exact ⟨h2.1, (hb.block _ h1).trans h2.2⟩
  · next hg => rw [if_neg hg]; obtain ⟨g, h3, h4, h5, h6⟩ := h2; exact ⟨g, h3, h4, (hb.block _ h1).trans h5, (hb.block _ h3).trans h6⟩

theorem Readout.up {W : World} {code flags vendor : Int} {a : Option Addr} {c : Nat} {zs : List Int} {pe p6 : Addr} {e12 : Value} {g11 t u : Nat} (h : Readout W code flags vendor a c zs pe p6 e12 g11 t) (hb : t ≤ u) : Readout W code flags vendor a c zs pe p6 e12 g11 u := by
  obtain ⟨h1, h2⟩ := h
  refine ⟨by omega, ?_⟩
  split at h2
  · next hg => rw [if_pos hg]; exact h2
  · next hg => rw [if_neg hg]; obtain ⟨g, h3, h4⟩ := h2; exact ⟨g, by omega, h4⟩

set_option maxHeartbeats 4000000 in
set_option maxRecDepth 100000 in
theorem lawM {u4 u5 u6 u7 u8 u10 u14 u15 u16 u17 u18 u19 u20 u21 u22 u23 u24 u25 u26 u27 u28 u29 u30 u31 u32 u33 u34 u35 u36 u37 u38 u39 u40 u41 u42 u43 u44 u45 u46 u47 u48 u49 u50 u51 u52 u53 u54 u55 u56 u57 u58 u59 u60 u61 u62 u63 u64 u65 u66 u67 u68 u69 u70 u71 u72 u73 u74 u75 u76 u77 u78 u79 u80 u81 u82 u83 u84 u85 u86 u87 u88 u89 u90 u91 u92 u93 u94 u95 u96 u97 u98 u99 u100 u101 u102 u103 u104 u105 u106 u107 u108 u109 u110 u111 u112 u113 u114 u115 u116 u117 u118 u119 u120 u121 u122 u123 u124 u125 u126 u127 u128 u129 u130 u131 u132 u133 u134 u135 u136 u137 u138 u139 u140 u141 u142 u143 u144 u145 u146 u147 u148 u149 u150 u151 u152 u153 u154 u155 u156 u157 u158 u159 u160 u161 u162 u163 u164 u165 u166 u167 u168 u169 u170 u171 u172 u173 u174 u175 u176 u177 u178 u179 u180 u181 u182 u183 : Value} (code flags vendor : Int) (a a2 : Option Addr) (e12 : Value) (pe p6 : Addr) (zs : List Int) (n c c2 g11 : Nat) (w0 w : World) (hn : n = zs.length) (hb : Below w0.heap.size w0 w) (hxa : Byt w0 a zs) (hx2 : Byt w a2 zs) (hc : n ≤ c2) (hcm : c2 ≤ maxLen) (hzs : ∀ z ∈ zs, byte z) (k0 : w0.cell? ⟨0, 0, none⟩ = some (.iface 94 (.pointer (some pe)))) (hbad : good zs = false) (hr : Readout w code flags vendor a c zs pe p6 e12 g11 w.heap.size) :
    Code.wp Ybad.prog (dropSeq 10 (Ybad.f3.body.getD .skip)) (bodyPost Ybad.prog Ybad.f3 (fun e w' => e = .returned (.bool true) ∧ Below w0.heap.size w0 w'))
      ⟨#[.int .u32 code, .int .u8 flags, .int .u32 vendor, .slice a n c, u4, u5, u6, u7, u8, .slice a2 n c2, u10, .pointer (some ⟨g11, 0, none⟩), e12, .bool false, u14, u15, u16, u17, u18, u19, u20, u21, u22, u23, u24, u25, u26, u27, u28, u29, u30, u31, u32, u33, u34, u35, u36, u37, u38, u39, u40, u41, u42, u43, u44, u45, u46, u47, u48, u49, u50, u51, u52, u53, u54, u55, u56, u57, u58, u59, u60, u61, u62, u63, u64, u65, u66, u67, u68, u69, u70, u71, u72, u73, u74, u75, u76, u77, u78, u79, u80, u81, u82, u83, u84, u85, u86, u87, u88, u89, u90, u91, u92, u93, u94, u95, u96, u97, u98, u99, u100, u101, u102, u103, u104, u105, u106, u107, u108, u109, u110, u111, u112, u113, u114, u115, u116, u117, u118, u119, u120, u121, u122, u123, u124, u125, u126, u127, u128, u129, u130, u131, u132, u133, u134, u135, u136, u137, u138, u139, u140, u141, u142, u143, u144, u145, u146, u147, u148, u149, u150, u151, u152, u153, u154, u155, u156, u157, u158, u159, u160, u161, u162, u163, u164, u165, u166, u167, u168, u169, u170, u171, u172, u173, u174, u175, u176, u177, u178, u179, u180, u181, u182, u183], []⟩ w := by
  conv => arg 2; whnf
  have HN := hid hn
  have HB := hid hb
  have HXA := hid hxa
  have HX2 := hid hx2
  have K0 := hid k0
  have HR := hid hr
  clear hn hb hxa hx2 hc hcm hzs k0 hr
  dsimp only
  go_upto_if 54 with fail
  go_cut [13] (fun v wc => v = .bool false ∧ wc = w)
  case first =>
    go_wp2
    go_meet
    case rel => exact ⟨rfl, rfl⟩
  case rest =>
    obtain ⟨rfl, rfl⟩ := hcut
    obtain ⟨hg1, hrr⟩ := HR.out
    rw [hbad, if_neg (by simp)] at hrr
    obtain ⟨g, hgt, rfl, h11, hge⟩ := hrr
    go_step
    exact lawT code flags vendor a a2 n c c2 g11 g pe w0 _ zs HN.out (HXA.out.later HB.out) HX2.out HB.out (cell_later HB.out K0.out) h11 (by rw [hge, HN.out])

set_option maxHeartbeats 4000000 in
set_option maxRecDepth 100000 in
theorem lawO {u4 u5 u6 u7 u8 u10 u13 u14 u15 u16 u17 u18 u19 u20 u21 u22 u23 u24 u25 u26 u27 u28 u29 u30 u31 u32 u33 u34 u35 u36 u37 u38 u39 u40 u41 u42 u43 u44 u45 u46 u47 u48 u49 u50 u51 u52 u53 u54 u55 u56 u57 u58 u59 u60 u61 u62 u63 u64 u65 u66 u67 u68 u69 u70 u71 u72 u73 u74 u75 u76 u77 u78 u79 u80 u81 u82 u83 u84 u85 u86 u87 u88 u89 u90 u91 u92 u93 u94 u95 u96 u97 u98 u99 u100 u101 u102 u103 u104 u105 u106 u107 u108 u109 u110 u111 u112 u113 u114 u115 u116 u117 u118 u119 u120 u121 u122 u123 u124 u125 u126 u127 u128 u129 u130 u131 u132 u133 u134 u135 u136 u137 u138 u139 u140 u141 u142 u143 u144 u145 u146 u147 u148 u149 u150 u151 u152 u153 u154 u155 u156 u157 u158 u159 u160 u161 u162 u163 u164 u165 u166 u167 u168 u169 u170 u171 u172 u173 u174 u175 u176 u177 u178 u179 u180 u181 u182 u183 : Value} (code flags vendor : Int) (a a2 : Option Addr) (e12 : Value) (pe p6 : Addr) (zs : List Int) (n c c2 g11 : Nat) (w0 w : World) (hn : n = zs.length) (hb : Below w0.heap.size w0 w) (hxa : Byt w0 a zs) (hx2 : Byt w a2 zs) (hc : n ≤ c2) (hcm : c2 ≤ maxLen) (hzs : ∀ z ∈ zs, byte z) (k0 : w0.cell? ⟨0, 0, none⟩ = some (.iface 94 (.pointer (some pe)))) (hr : Readout w code flags vendor a c zs pe p6 e12 g11 w.heap.size) :
    Code.wp Ybad.prog (dropSeq 6 (Ybad.f3.body.getD .skip)) (bodyPost Ybad.prog Ybad.f3 (fun e w' => e = .returned (.bool true) ∧ Below w0.heap.size w0 w'))
      ⟨#[.int .u32 code, .int .u8 flags, .int .u32 vendor, .slice a n c, u4, u5, u6, u7, u8, .slice a2 n c2, u10, .pointer (some ⟨g11, 0, none⟩), e12, u13, u14, u15, u16, u17, u18, u19, u20, u21, u22, u23, u24, u25, u26, u27, u28, u29, u30, u31, u32, u33, u34, u35, u36, u37, u38, u39, u40, u41, u42, u43, u44, u45, u46, u47, u48, u49, u50, u51, u52, u53, u54, u55, u56, u57, u58, u59, u60, u61, u62, u63, u64, u65, u66, u67, u68, u69, u70, u71, u72, u73, u74, u75, u76, u77, u78, u79, u80, u81, u82, u83, u84, u85, u86, u87, u88, u89, u90, u91, u92, u93, u94, u95, u96, u97, u98, u99, u100, u101, u102, u103, u104, u105, u106, u107, u108, u109, u110, u111, u112, u113, u114, u115, u116, u117, u118, u119, u120, u121, u122, u123, u124, u125, u126, u127, u128, u129, u130, u131, u132, u133, u134, u135, u136, u137, u138, u139, u140, u141, u142, u143, u144, u145, u146, u147, u148, u149, u150, u151, u152, u153, u154, u155, u156, u157, u158, u159, u160, u161, u162, u163, u164, u165, u166, u167, u168, u169, u170, u171, u172, u173, u174, u175, u176, u177, u178, u179, u180, u181, u182, u183], []⟩ w := by
  conv => arg 2; whnf
  have HQ : Hid (Calls Ybad.prog 6 #[.slice a n c, .slice a2 n c2] w fun e w' => e = .returned (.bool true) ∧ w = w') := hid (by rw [hn]; exact (equal_any a a2 c c2 zs w (hxa.later hb) hx2).mono (fun e w1 h => ⟨h.1, h.2.symm⟩))
  have HN := hid hn
  have HB := hid hb
  have HXA := hid hxa
  have HX2 := hid hx2
  have HZS := hid hzs
  have K0 := hid k0
  have HR := hid hr
  have hsz := hb.size
  have HC := hid hc
  have HCM := hid hcm
  clear hn hb hxa hx2 hc hcm hzs k0 hr
  dsimp only
  by_cases hin : 2 ≤ n ∧ n ≤ 18
  · obtain ⟨i2, i18⟩ := hin
    have i2' : (2 : Int) ≤ (n : Int) := by omega
    have i18' : (n : Int) ≤ 18 := by omega
    go_upto_region 13 with (first | (refine HQ.out.mono ?_; rintro e w1 ⟨rfl, rfl⟩))
    go_cut [15] (fun v wc => v = .int .i64 0 ∧ w.alloc (.cells #[.int .u8 0, .int .u8 0, .int .u8 0, .int .u8 0, .int .u8 0, .int .u8 0, .int .u8 0, .int .u8 0, .int .u8 0, .int .u8 0, .int .u8 0, .int .u8 0, .int .u8 0, .int .u8 0, .int .u8 0, .int .u8 0] 42) = wc)
    case first =>
      go_wp2
      go_meet
      case rel => exact ⟨rfl, rfl⟩
    case rest =>
      obtain ⟨rfl, rfl⟩ := hcut
      go_step
      rcases HX2.out with rfl | ⟨b2, o2, rfl, hx⟩
      · have := HN.out
        simp at this
        omega
      · have hb2 : b2 < w.heap.size := World.block_lt_of_cell? _ _ (hx 0 (by have := HN.out; omega))
        have bw : Below w.heap.size w (w.alloc (.cells #[.int .u8 0, .int .u8 0, .int .u8 0, .int .u8 0, .int .u8 0, .int .u8 0, .int .u8 0, .int .u8 0, .int .u8 0, .int .u8 0, .int .u8 0, .int .u8 0, .int .u8 0, .int .u8 0, .int .u8 0, .int .u8 0] 42)) := (by repeat' (first | exact Below.refl _ _ | assumption | refine Below.setCell ?_ ?_ _ | refine quiet_below _ _ ?_ _ | refine Below.drew ?_ | refine Below.alloc ?_ ?_ _ | go_size))
        exact lawL code flags vendor a e12 pe p6 zs n c c2 b2 o2 g11 w.heap.size w0 (w.alloc (.cells #[.int .u8 0, .int .u8 0, .int .u8 0, .int .u8 0, .int .u8 0, .int .u8 0, .int .u8 0, .int .u8 0, .int .u8 0, .int .u8 0, .int .u8 0, .int .u8 0, .int .u8 0, .int .u8 0, .int .u8 0, .int .u8 0] 42)) (HB.out.trans (bw.mono hsz)) hsz HXA.out K0.out (HR.out.later bw) HN.out i2 i18 HC.out HCM.out HZS.out (fun i hi => cell_later bw (hx i hi)) hb2 (heap_at _ _ _ rfl)
  · have hbad : good zs = false := by
      unfold good
      have := HN.out
      by_cases h2 : 2 ≤ n
      · rw [decide_eq_false (show ¬ zs.length ≤ 18 by omega)]
        simp
      · rw [decide_eq_false (show ¬ 2 ≤ zs.length by omega)]
        rfl
    by_cases h2 : 2 ≤ n
    · have i2' : (2 : Int) ≤ (n : Int) := by omega
      have i18' : ¬ (n : Int) ≤ 18 := by omega
      have i18d : decide ((n : Int) ≤ 18) = false := decide_eq_false i18'
      have i18n : ¬ n ≤ 18 := by omega
      go_upto_region 13 with (first | (refine HQ.out.mono ?_; rintro e w1 ⟨rfl, rfl⟩))
      go_cut [15] (fun v wc => v = .int .i64 0 ∧ Below w.heap.size w wc)
      case first =>
        go_wp2
        go_meet
        case rel => exact ⟨rfl, (by repeat' (first | exact Below.refl _ _ | assumption | refine Below.setCell ?_ ?_ _ | refine quiet_below _ _ ?_ _ | refine Below.drew ?_ | refine Below.alloc ?_ ?_ _ | go_size))⟩
      case rest =>
        obtain ⟨rfl, hbc⟩ := hcut
        go_step
        exact lawM code flags vendor a a2 e12 pe p6 zs n c c2 g11 w0 wc HN.out (HB.out.trans (hbc.mono hsz)) HXA.out (HX2.out.later hbc) HC.out HCM.out HZS.out K0.out hbad ((HR.out.later hbc).up hbc.size)
    · have i2' : ¬ (2 : Int) ≤ (n : Int) := by omega
      go_upto_region 13 with (first | (refine HQ.out.mono ?_; rintro e w1 ⟨rfl, rfl⟩))
      go_cut [15] (fun v wc => v = .int .i64 0 ∧ Below w.heap.size w wc)
      case first =>
        go_wp2
        go_meet
        case rel => exact ⟨rfl, (by repeat' (first | exact Below.refl _ _ | assumption | refine Below.setCell ?_ ?_ _ | refine quiet_below _ _ ?_ _ | refine Below.drew ?_ | refine Below.alloc ?_ ?_ _ | go_size))⟩
      case rest =>
        obtain ⟨rfl, hbc⟩ := hcut
        go_step
        exact lawM code flags vendor a a2 e12 pe p6 zs n c c2 g11 w0 wc HN.out (HB.out.trans (hbc.mono hsz)) HXA.out (HX2.out.later hbc) HC.out HCM.out HZS.out K0.out hbad ((HR.out.later hbc).up hbc.size)
end Go.Proofs.YbulkebiiDoor
