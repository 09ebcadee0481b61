import Derived.Test.YbulkebhuSegC1
import Derived.Test.YbulkebhuTwin
import Derived.Handy
import Derived.Deep.DeepCutAuto
import Derived.Deep.CutBlock
namespace Go.Proofs.Ybulkebhu
open Go.RowKit
set_option linter.unusedVariables false

set_option maxHeartbeats 4000000 in
set_option maxRecDepth 100000 in
theorem segB {u0 u3 u4 u7 u8 u9 u10 u11 u12 u13 u14 u15 u16 u18 u20 u21 u22 u23 u24 u25 u26 u27 u28 u29 u30 u31 u32 u33 u34 u35 u36 u37 u38 u39 u40 u41 u42 u43 u44 u45 u46 u47 u48 u49 u50 u51 u52 u53 u54 u55 u56 u57 u58 u59 u60 u61 u62 u63 u64 u65 u66 u67 u68 u69 u70 u71 u72 u73 u74 u75 u76 u77 u78 u79 u80 u81 u82 u83 u84 u85 u86 u87 u88 u89 u90 u91 u92 u93 u94 u95 u96 u97 u98 u99 u100 u101 u102 u103 u104 u105 u106 u107 u108 u109 u110 u111 u112 u113 u114 u115 u116 u117 u118 u119 u120 u121 u122 u123 u124 u125 u126 u127 u128 u129 u130 u131 u132 u133 u134 u135 u136 u137 u138 u139 u140 u141 u142 u143 u144 u145 u146 u147 u148 u149 u150 u151 u152 u153 u154 u155 u156 u157 u158 u159 u160 u161 u162 u163 u164 u165 u166 u167 u168 u169 u170 u171 u172 u173 u174 u175 u176 u177 u178 u179 u180 u181 u182 u183 u184 u185 u186 u187 u188 u189 u190 u191 u192 u193 u194 u195 u196 u197 u198 u199 u200 u201 u202 u203 u204 u205 u206 u207 u208 u209 u210 u211 u212 u213 u214 u215 u216 u217 u218 u219 u220 u221 u222 u223 u224 u225 u226 u227 u228 u229 u230 u231 u232 u233 u234 u235 u236 u237 u238 u239 u240 u241 u242 u243 u244 u245 u246 u247 u248 u249 u250 u251 u252 u253 u254 u255 u256 u257 u258 u259 u260 u261 u262 u263 u264 u265 u266 u267 u268 u269 u270 u271 u272 u273 u274 u275 u276 u277 u278 u279 u280 u281 u282 u283 u284 u285 u286 u287 u288 u289 u290 u291 u292 u293 u294 u295 u296 u297 u298 u299 u300 u301 u302 u303 u304 u305 u306 u307 u308 u309 u310 u311 u312 u313 u314 u315 u316 u317 u318 u319 u320 u321 u322 u323 u324 u325 u326 u327 u328 u329 u330 u331 u332 u333 u334 u335 u336 u337 u338 u339 u340 u341 u342 u343 u344 : Value} (commit : Int) (self : ByteArray) (g m cp : Nat) (ad : Option Addr) (cd : Nat) (ds : List ByteArray) (le : Bool) (w0 w : World) (hm : m + 1 ≤ 65537) (hms : MS w0 w g (m + 1)) (hd : Lies w0 ad ds) (hdl : ds.length * 16 ≤ 140737488351232) :
    Code.wp Yba.prog (dropSeq 10 (Yba.f3.body.getD .skip)) (bodyPost Yba.prog Yba.f3 (fun e w' => e = .returned (.bool true) ∧ Below w0.heap.size w0 w'))
      ⟨#[u0, .int .u64 commit, .string self, u3, u4, .slice ad ds.length cd, .bool le, u7, u8, u9, u10, u11, u12, u13, u14, u15, u16, .slice (some ⟨g, 0, none⟩) (m + 1) cp, u18, .int .i64 m, u20, u21, u22, u23, u24, u25, u26, u27, u28, u29, u30, u31, u32, u33, u34, u35, u36, u37, u38, u39, u40, u41, u42, u43, u44, u45, u46, u47, u48, u49, u50, u51, u52, u53, u54, u55, u56, u57, u58, u59, u60, u61, u62, u63, u64, u65, u66, u67, u68, u69, u70, u71, u72, u73, u74, u75, u76, u77, u78, u79, u80, u81, u82, u83, u84, u85, u86, u87, u88, u89, u90, u91, u92, u93, u94, u95, u96, u97, u98, u99, u100, u101, u102, u103, u104, u105, u106, u107, u108, u109, u110, u111, u112, u113, u114, u115, u116, u117, u118, u119, u120, u121, u122, u123, u124, u125, u126, u127, u128, u129, u130, u131, u132, u133, u134, u135, u136, u137, u138, u139, u140, u141, u142, u143, u144, u145, u146, u147, u148, u149, u150, u151, u152, u153, u154, u155, u156, u157, u158, u159, u160, u161, u162, u163, u164, u165, u166, u167, u168, u169, u170, u171, u172, u173, u174, u175, u176, u177, u178, u179, u180, u181, u182, u183, u184, u185, u186, u187, u188, u189, u190, u191, u192, u193, u194, u195, u196, u197, u198, u199, u200, u201, u202, u203, u204, u205, u206, u207, u208, u209, u210, u211, u212, u213, u214, u215, u216, u217, u218, u219, u220, u221, u222, u223, u224, u225, u226, u227, u228, u229, u230, u231, u232, u233, u234, u235, u236, u237, u238, u239, u240, u241, u242, u243, u244, u245, u246, u247, u248, u249, u250, u251, u252, u253, u254, u255, u256, u257, u258, u259, u260, u261, u262, u263, u264, u265, u266, u267, u268, u269, u270, u271, u272, u273, u274, u275, u276, u277, u278, u279, u280, u281, u282, u283, u284, u285, u286, u287, u288, u289, u290, u291, u292, u293, u294, u295, u296, u297, u298, u299, u300, u301, u302, u303, u304, u305, u306, u307, u308, u309, u310, u311, u312, u313, u314, u315, u316, u317, u318, u319, u320, u321, u322, u323, u324, u325, u326, u327, u328, u329, u330, u331, u332, u333, u334, u335, u336, u337, u338, u339, u340, u341, u342, u343, u344], []⟩ w := by
  conv => arg 2; whnf
  have HMS := hid hms
  have HD := hid hd
  have hszw : w0.heap.size ≤ w.heap.size := hms.below.size
  obtain ⟨i0, hi, hz0, hz1, hz2⟩ := info_parts Yba.info30
  clear hms hd
  go_wp2_with (at_make; refine wpList_make_full _ rfl _ _ 27 rfl w.heap.size 30 i0 (.agg #[.int .u64 0, .slice none 0 0]) 2 Yba.underlying27 hi hz0 hz1 _ _ _ _ (m + 1) rfl rfl ?hC ?hL ?b2 ?b3 ?b4 ?_)
  case b2 => rw [hz2]; omega
  case b3 => unfold maxLen; omega
  all_goals first | (simp; done) | (exact Nat.le_refl _) | skip
  intro w1 hown hgrow
  have hb1 : Below w.heap.size w w1 := (Below.refl _ _).grown hgrow (Nat.le_refl _) (fun k hk => by cases hk)
  obtain ⟨sav, hsav, hsl⟩ := owns_block hown
  have HL0 : Hid (Loop3 w0 w1 g w.heap.size (m + 1) 0) := by
    refine ⟨HMS.out.later hb1, by have := HMS.out.lt.2; omega, hszw, ?_, ⟨sav, hsav, hsl⟩, fun i hi => absurd hi (Nat.not_lt_zero _)⟩
    intro i hi I a n c e1 e2 x hx
    rw [hb1.cell (show (⟨g, _, none⟩ : Addr).block < _ from HMS.out.lt.2)] at e1 e2
    obtain ⟨I', a', ss, c', f1, f2, _, _, f5, _⟩ := HMS.out.cells hi
    rw [e2] at f2
    simp at f2
    obtain ⟨rfl, _, _⟩ := f2
    have := (f5 x hx).2.lt
    omega
  clear hown hgrow hb1 hsav hsl hi hz0 hz1 hz2
  go_upto_block 5 with fail
  go_cut [] (fun wc => Loop3 w0 wc g w.heap.size (m + 1) (m + 1))
  case first =>
    go_wp2_with fail
    go_loopw [121] (fun i wr => ∃ k : Nat, k ≤ m + 1 ∧ i = .int .i64 k ∧ Loop3 w0 wr g w.heap.size (m + 1) k) (fun i _ => m + 1 - (intOf i).toNat)
    case atStart => exact ⟨0, Nat.zero_le _, rfl, HL0.out⟩
    case round =>
      obtain ⟨k, hk, rfl, h3⟩ := hrel
      by_cases hlt : k < m + 1
      · obtain ⟨I, a, ss, c, e1, e2, e3, e4, e5, _⟩ := h3.1.cells hlt
        have b1 : (0 : Int) ≤ (k : Int) := by omega
        have b2 : (k : Int) < (m : Int) + 1 := by omega
        have hgl : g < wr.heap.size := h3.1.lt.2
        obtain ⟨sv, hsv, hsvl⟩ := h3.2.2.2.2.1
        have hgsl : w.heap.size < wr.heap.size := lt_of_block hsv
        have H3 := hid h3
        have HE3 := hid e3
        have HE5 := hid e5
        have HSV := hid hsv
        have hsn : ∃ x y, wr.cell? ⟨w.heap.size, k * 2, none⟩ = some x ∧ wr.cell? ⟨w.heap.size, k * 2 + 1, none⟩ = some y := by
          rw [cell_of_row wr _ _ _ _ _ hsv, cell_of_row wr _ _ _ _ _ hsv]
          exact ⟨sv[k * 2]'(by omega), sv[k * 2 + 1]'(by omega), by simp, by simp⟩
        obtain ⟨x0, y0, hx0, hy0⟩ := hsn
        have hf0 : wr.frozen? ⟨w.heap.size, k * 2, none⟩ = false := frozen_of_row _ _ _ _ _ hsv
        have hf1 : wr.frozen? ⟨w.heap.size, k * 2 + 1, none⟩ = false := frozen_of_row _ _ _ _ _ hsv
        have hne1 : g ≠ w.heap.size := h3.2.1
        have hne2 : w.heap.size ≠ g := fun h => hne1 h.symm
        clear h3 e3 e5 hsv hsvl
        go_wp2
        go_region_held3 (fun w' => w'.cell? ⟨g, k * 2, none⟩ = some (.int .u64 I) ∧ w'.cell? ⟨g, k * 2 + 1, none⟩ = some (.slice a ss.length c)) (go_keep)
          (first
            | (go_at_call 4; refine (copy_any a c ss _ (by omega) (lies_later HE3.out (Below.refl _ _).drew)).mono ?_; rintro e w2 ⟨a2, c2, rfl, hnil2, hb2, hl2, hblk2⟩; have f0 : w2.cell? ⟨g, k * 2, none⟩ = some (.int .u64 I) := cell_later hb2 e1; have f1 : w2.cell? ⟨g, k * 2 + 1, none⟩ = some (.slice a ss.length c) := cell_later hb2 e2; have f2 := cell_later hb2 hx0; have f3 := cell_later hb2 hy0; have f4 : w2.frozen? ⟨w.heap.size, k * 2, none⟩ = false := (hb2.frozen hgsl).trans hf0; have f5 : w2.frozen? ⟨w.heap.size, k * 2 + 1, none⟩ = false := (hb2.frozen hgsl).trans hf1))
        have hb3 : Below wr.heap.size wr w2 := ⟨hb2.os, hb2.tape, hb2.output, hb2.size, hb2.block⟩
        have hst := (H3.out.later hb3).step hlt f0 f1 hnil2 (lies_later HE3.out hb3) hl2 e4 (fun x hx => (HE5.out x hx).2.same (hb3.block _ (HE5.out x hx).2.lt)) (c' := c2)
          (fun x hx => ⟨(hblk2 x hx).2, by have h1 := (hblk2 x hx).1; have h2 : wr.drew.heap.size = wr.heap.size := rfl; omega⟩)
        have HST := hid hst
        clear hst f0 f1 f2 f3 f4 f5 hl2 hblk2 hb2 hb3 hnil2 hx0 hy0 hf0 hf1 e1 e2
        go_wp2
        go_roundw
        case rel => exact ⟨k + 1, by omega, by go_num, HST.out⟩
        case measure => simp [intOf]; omega
      · obtain rfl : k = m + 1 := by omega
        have H3 := hid h3
        clear h3
        go_wp2
        go_meet
        case rel => exact H3.out
  case rest =>
    go_step
    exact segC1 commit self g m cp w.heap.size ad cd ds le w0 wc hm hcut.1.below hcut.2.2.2.2.2.twin (lies_later HD.out hcut.1.below) hdl
end Go.Proofs.Ybulkebhu
