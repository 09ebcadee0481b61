import Derived.Test.YbulkebhuSegD
import Derived.Test.YbulkebhuAfter
import Derived.Handy
import Derived.Deep.DeepCutAuto
import Derived.Deep.CutBlock
namespace Go.Proofs.Ybulkebhu
open Go.RowKit
set_option linter.unusedVariables false

set_option maxHeartbeats 4000000 in
set_option maxRecDepth 100000 in
theorem segC2 {u0 u3 u4 u7 u8 u9 u10 u11 u12 u13 u14 u15 u16 u18 u21 u24 u25 u26 u27 u28 u29 u30 u31 u32 u33 u34 u35 u36 u37 u38 u39 u40 u41 u42 u43 u44 u45 u46 u47 u48 u49 u50 u51 u52 u53 u54 u55 u56 u57 u58 u59 u60 u61 u62 u63 u64 u65 u66 u67 u68 u69 u70 u71 u72 u73 u74 u75 u76 u77 u78 u79 u80 u81 u82 u83 u84 u85 u86 u87 u88 u89 u90 u91 u92 u93 u94 u95 u96 u97 u98 u99 u100 u101 u102 u103 u104 u105 u106 u107 u108 u109 u110 u111 u112 u113 u114 u115 u116 u117 u118 u119 u120 u121 u122 u123 u124 u125 u126 u127 u128 u129 u130 u131 u132 u133 u134 u135 u136 u137 u138 u139 u140 u141 u142 u143 u144 u145 u146 u147 u148 u149 u150 u151 u152 u153 u154 u155 u156 u157 u158 u159 u160 u161 u162 u163 u164 u165 u166 u167 u168 u169 u170 u171 u172 u173 u174 u175 u176 u177 u178 u179 u180 u181 u182 u183 u184 u185 u186 u187 u188 u189 u190 u191 u192 u193 u194 u195 u196 u197 u198 u199 u200 u201 u202 u203 u204 u205 u206 u207 u208 u209 u210 u211 u212 u213 u214 u215 u216 u217 u218 u219 u220 u221 u222 u223 u224 u225 u226 u227 u228 u229 u230 u231 u232 u233 u234 u235 u236 u237 u238 u239 u240 u241 u242 u243 u244 u245 u246 u247 u248 u249 u250 u251 u252 u253 u254 u255 u256 u257 u258 u259 u260 u261 u262 u263 u264 u265 u266 u267 u268 u269 u270 u271 u272 u273 u274 u275 u276 u277 u278 u279 u280 u281 u282 u283 u284 u285 u286 u287 u288 u289 u290 u291 u292 u293 u294 u295 u296 u297 u298 u299 u300 u301 u302 u303 u304 u305 u306 u307 u308 u309 u310 u311 u312 u313 u314 u315 u316 u317 u318 u319 u320 u321 u322 u323 u324 u325 u326 u327 u328 u329 u330 u331 u332 u333 u334 u335 u336 u337 u338 u339 u340 u341 u342 u343 u344 : Value} (commit : Int) (self : ByteArray) (g m cp gs L G : Nat) (ad : Option Addr) (cd : Nat) (a1 : Option Addr) (c1 : Nat) (ds : List ByteArray) (le : Bool) (w0 w1 w : World) (hm : m + 1 ≤ 65537) (hb0 : Below w0.heap.size w0 w1) (hb1 : Below w1.heap.size w1 w)
    (ht : Twin w1 g gs (m + 1)) (k1 : w.cell? ⟨G, 1, none⟩ = some (.string self)) (k21 : w.cell? ⟨G, 21, none⟩ = some (.int .u64 commit)) (k23 : w.cell? ⟨G, 23, none⟩ = some (.slice (some ⟨g, 0, none⟩) (m + 1) cp))
    (k4 : w.cell? ⟨G, 4, none⟩ = some (.iface 31 (.pointer (some ⟨L, 0, none⟩)))) (hL : Live w L (.slice a1 ds.length c1) le (.slice none 0 0) 0) (hl1 : Lies w a1 ds) (hd : Lies w1 ad ds) (hdl : ds.length ≤ maxLen)
    (hGL : G ≠ L) (h1L : ∀ x, a1 = some x → x.block ≠ L) (hLw : w1.heap.size ≤ L) :
    Code.wp Yba.prog (dropSeq 14 (Yba.f3.body.getD .skip)) (bodyPost Yba.prog Yba.f3 (fun e w' => e = .returned (.bool true) ∧ Below w0.heap.size w0 w'))
      ⟨#[u0, .int .u64 commit, .string self, u3, u4, .slice ad ds.length cd, .bool le, u7, u8, u9, u10, u11, u12, u13, u14, u15, u16, .slice (some ⟨g, 0, none⟩) (m + 1) cp, u18, .int .i64 m, .slice (some ⟨gs, 0, none⟩) (m + 1) (m + 1), u21, .pointer (some ⟨L, 0, none⟩), .pointer (some ⟨G, 0, none⟩), u24, u25, u26, u27, u28, u29, u30, u31, u32, u33, u34, u35, u36, u37, u38, u39, u40, u41, u42, u43, u44, u45, u46, u47, u48, u49, u50, u51, u52, u53, u54, u55, u56, u57, u58, u59, u60, u61, u62, u63, u64, u65, u66, u67, u68, u69, u70, u71, u72, u73, u74, u75, u76, u77, u78, u79, u80, u81, u82, u83, u84, u85, u86, u87, u88, u89, u90, u91, u92, u93, u94, u95, u96, u97, u98, u99, u100, u101, u102, u103, u104, u105, u106, u107, u108, u109, u110, u111, u112, u113, u114, u115, u116, u117, u118, u119, u120, u121, u122, u123, u124, u125, u126, u127, u128, u129, u130, u131, u132, u133, u134, u135, u136, u137, u138, u139, u140, u141, u142, u143, u144, u145, u146, u147, u148, u149, u150, u151, u152, u153, u154, u155, u156, u157, u158, u159, u160, u161, u162, u163, u164, u165, u166, u167, u168, u169, u170, u171, u172, u173, u174, u175, u176, u177, u178, u179, u180, u181, u182, u183, u184, u185, u186, u187, u188, u189, u190, u191, u192, u193, u194, u195, u196, u197, u198, u199, u200, u201, u202, u203, u204, u205, u206, u207, u208, u209, u210, u211, u212, u213, u214, u215, u216, u217, u218, u219, u220, u221, u222, u223, u224, u225, u226, u227, u228, u229, u230, u231, u232, u233, u234, u235, u236, u237, u238, u239, u240, u241, u242, u243, u244, u245, u246, u247, u248, u249, u250, u251, u252, u253, u254, u255, u256, u257, u258, u259, u260, u261, u262, u263, u264, u265, u266, u267, u268, u269, u270, u271, u272, u273, u274, u275, u276, u277, u278, u279, u280, u281, u282, u283, u284, u285, u286, u287, u288, u289, u290, u291, u292, u293, u294, u295, u296, u297, u298, u299, u300, u301, u302, u303, u304, u305, u306, u307, u308, u309, u310, u311, u312, u313, u314, u315, u316, u317, u318, u319, u320, u321, u322, u323, u324, u325, u326, u327, u328, u329, u330, u331, u332, u333, u334, u335, u336, u337, u338, u339, u340, u341, u342, u343, u344], []⟩ w := by
  conv => arg 2; whnf
  obtain ⟨I, a, a', ss, c, c', h1, h2, h3, h4, h5, h6, h7, h8, h9⟩ := ht m (Nat.lt_succ_self m)
  have hg1 : g < w1.heap.size := World.block_lt_of_cell? _ _ h1
  have hmI : (m : Int) + 1 ≤ 100000 := by omega
  have hss : ss.length ≤ maxLen := by unfold maxLen; omega
  -- WHAT THE CALL LEAVES, whatever the last membership
  have call : Calls Yba.prog 5 #[.pointer (some ⟨G, 0, none⟩)] w fun e W => ∃ res, e = .returned res ∧ After w1 W L G g m cp commit self (.slice a1 ds.length c1) le ds I ss res := by
    have q1 := cell_later hb1 h1
    have q2 := cell_later hb1 h2
    have q6 := lies_later h6 hb1
    by_cases hn2 : ss.length = 2
    · obtain ⟨s0, s1, rfl⟩ : ∃ s0 s1, ss = [s0, s1] := by
        match ss, hn2 with
        | [s0, s1], _ => exact ⟨s0, s1, rfl⟩
      by_cases hI : I ≤ commit
      · obtain ⟨b, off, rfl, t0, t1⟩ := lies_two q6
        have hmb : Mine w b := (h9 _ rfl).same (hb1.block _ (h9 _ rfl).lt)
        have hbL : b ≠ L := by have := (h9 _ rfl).lt; simp at this; omega
        cases hh : has [s0, s1] self with
        | false =>
          have hh' : (s0.toList == self.toList) = false ∧ (s1.toList == self.toList) = false := by simpa [has] using hh
          refine (mem_not G g m cp I commit b off c s0 s1 self w hI hmI hh k23 k21 k1 q1 q2 q6).mono ?_
          rintro e W ⟨rfl, hb⟩
          exact ⟨_, rfl, after_quiet hb1 hb hL (Or.inl ⟨rfl, Or.inr (Or.inr ⟨s0, s1, rfl, hI, hh'.1, hh'.2⟩)⟩) q2 hss q6 k1 k21 k23⟩
        | true =>
          have hh' : (s0.toList == self.toList) = true ∨ (s1.toList == self.toList) = true := by simpa [has] using hh
          obtain ⟨o, ho, ha⟩ : ∃ o, (((s0.toList == self.toList) = true ∧ o = s1) ∨ ((s0.toList == self.toList) = false ∧ o = s0)) ∧ Asks I commit [s0, s1] self (some o) := by
            cases h0 : (s0.toList == self.toList) with
            | true => exact ⟨s1, Or.inl ⟨rfl, rfl⟩, Or.inr ⟨s0, s1, s1, rfl, rfl, hI, Or.inl ⟨h0, rfl⟩⟩⟩
            | false => exact ⟨s0, Or.inr ⟨rfl, rfl⟩, Or.inr ⟨s0, s1, s0, rfl, rfl, hI, Or.inr ⟨h0, by rw [h0] at hh'; simpa using hh', rfl⟩⟩⟩
          refine (mem_asks G g m cp L I commit b off c s0 s1 o self w hI hmI hh ho k23 k21 k1 k4 q1 q2 q6 a1 c1 ds le hL hl1 hdl hGL h1L).mono ?_
          intro e W hp
          exact after_asks hb1 hLw hp ha q2 (by omega) hbL hGL hmb k1 k21 k23
      · refine (mem_late G g m cp I commit a c w (by omega) hmI k23 k21 q1 q2).mono ?_
        rintro e W ⟨rfl, hb⟩
        exact ⟨_, rfl, after_quiet hb1 hb hL (Or.inl ⟨rfl, Or.inr (Or.inl ⟨rfl, by omega⟩)⟩) q2 hss q6 k1 k21 k23⟩
    · refine (mem_wide G g m cp I a c ss.length w (by simp; omega) hmI k23 q1 q2).mono ?_
      rintro e W ⟨rfl, hb⟩
      exact ⟨_, rfl, after_quiet hb1 hb hL (Or.inl ⟨rfl, Or.inl hn2⟩) q2 hss q6 k1 k21 k23⟩
  have HC := hid call
  have HT := hid ht
  have HD := hid hd
  have HB0 := hid hb0
  have H3 := hid h3
  have H4 := hid h4
  have H7 := hid h7
  clear call ht hd hb0 hb1 k1 k21 k23 k4 hL hl1 h1 h2 h3 h4 h5 h6 h7 h9 hGL h1L hLw hg1 hmI
  dsimp only
  go_upto_region 33 with fail
  go_cut [24] (fun v wc => After w1 wc L G g m cp commit self (.slice a1 ds.length c1) le ds I ss v)
  case first =>
    go_wp2_with fail
    refine HC.out.mono ?_
    rintro e W ⟨res, rfl, hA⟩
    have HA := hid hA
    clear hA
    go_wp2
    go_meet
    case rel => exact HA.out
  case rest =>
    obtain ⟨cv, q, j1, j2, j3, j4, j5, j6, j7, j8⟩ := hcut
    go_step
    exact segD commit self g m cp gs L G ad cd _ _ cv ds le q w0 wc hm (HB0.out.trans (j5.mono HB0.out.size)) (HT.out.later j5) j6 j7 j8 j1 j2 j4 I a' ss c' (cell_later j5 H3.out) (cell_later j5 H4.out) (lies_later H7.out j5) j3 (lies_later HD.out j5) hdl
end Go.Proofs.Ybulkebhu
