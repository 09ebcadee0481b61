import Derived.Test.YbulkebhuParts
import Derived.Handy
import Derived.Deep.DeepCutAuto
import Derived.Deep.CutBlock
namespace Go.Proofs.Ybulkebhu
open Go.RowKit

set_option maxHeartbeats 4000000 in
set_option maxRecDepth 100000 in
theorem segF {u0 u3 u4 u5 u6 u7 u8 u9 u10 u11 u12 u13 u14 u15 u16 u18 u19 u21 u24 u25 u28 u29 u30 u31 u32 u33 u34 u35 u36 u37 u38 u39 u40 u41 u42 u43 u44 u45 u46 u47 u48 u49 u50 u51 u52 u53 u54 u55 u56 u57 u58 u59 u60 u61 u62 u63 u64 u65 u66 u67 u68 u69 u70 u71 u72 u73 u74 u75 u76 u77 u78 u79 u80 u81 u82 u83 u84 u85 u86 u87 u88 u89 u90 u91 u92 u93 u94 u95 u96 u97 u98 u99 u100 u101 u102 u103 u104 u105 u106 u107 u108 u109 u110 u111 u112 u113 u114 u115 u116 u117 u118 u119 u120 u121 u122 u123 u124 u125 u126 u127 u128 u129 u130 u131 u132 u133 u134 u135 u136 u137 u138 u139 u140 u141 u142 u143 u144 u145 u146 u147 u148 u149 u150 u151 u152 u153 u154 u155 u156 u157 u158 u159 u160 u161 u162 u163 u164 u165 u166 u167 u168 u169 u170 u171 u172 u173 u174 u175 u176 u177 u178 u179 u180 u181 u182 u183 u184 u185 u186 u187 u188 u189 u190 u191 u192 u193 u194 u195 u196 u197 u198 u199 u200 u201 u202 u203 u204 u205 u206 u207 u208 u209 u210 u211 u212 u213 u214 u215 u216 u217 u218 u219 u220 u221 u222 u223 u224 u225 u226 u227 u228 u229 u230 u231 u232 u233 u234 u235 u236 u237 u238 u239 u240 u241 u242 u243 u244 u245 u246 u247 u248 u249 u250 u251 u252 u253 u254 u255 u256 u257 u258 u259 u260 u261 u262 u263 u264 u265 u266 u267 u268 u269 u270 u271 u272 u273 u274 u275 u276 u277 u278 u279 u280 u281 u282 u283 u284 u285 u286 u287 u288 u289 u290 u291 u292 u293 u294 u295 u296 u297 u298 u299 u300 u301 u302 u303 u304 u305 u306 u307 u308 u309 u310 u311 u312 u313 u314 u315 u316 u317 u318 u319 u320 u321 u322 u323 u324 u325 u326 u327 u328 u329 u330 u331 u332 u333 u334 u335 u336 u337 u338 u339 u340 u341 u342 u343 u344 : Value} (commit : Int) (self : ByteArray) (g m cp gs L G : Nat) (v26 dv cv : Value) (ds : List ByteArray) (le : Bool) (q : Option ByteArray) (w0 w : World) (hm : m + 1 ≤ 65537) (hb0 : Below w0.heap.size w0 w)
    (ht : Twin w g gs (m + 1)) (k1 : w.cell? ⟨G, 1, none⟩ = some (.string self)) (k21 : w.cell? ⟨G, 21, none⟩ = some (.int .u64 commit)) (k23 : w.cell? ⟨G, 23, none⟩ = some (.slice (some ⟨g, 0, none⟩) (m + 1) cp))
    (hL : Live w L dv le cv (wlOf ds q)) (hc : Few w cv q.toList) (hv : Few w v26 q.toList) :
    Code.wp Yba.prog (dropSeq 21 (Yba.f3.body.getD .skip)) (bodyPost Yba.prog Yba.f3 (fun e w' => e = .returned (.bool true) ∧ Below w0.heap.size w0 w'))
      ⟨#[u0, .int .u64 commit, .string self, u3, u4, u5, u6, u7, u8, u9, u10, u11, u12, u13, u14, u15, u16, .slice (some ⟨g, 0, none⟩) (m + 1) cp, u18, u19, .slice (some ⟨gs, 0, none⟩) (m + 1) (m + 1), u21, .pointer (some ⟨L, 0, none⟩), .pointer (some ⟨G, 0, none⟩), u24, u25, v26, .int .i64 (wlOf ds q), u28, u29, u30, u31, u32, u33, u34, u35, u36, u37, u38, u39, u40, u41, u42, u43, u44, u45, u46, u47, u48, u49, u50, u51, u52, u53, u54, u55, u56, u57, u58, u59, u60, u61, u62, u63, u64, u65, u66, u67, u68, u69, u70, u71, u72, u73, u74, u75, u76, u77, u78, u79, u80, u81, u82, u83, u84, u85, u86, u87, u88, u89, u90, u91, u92, u93, u94, u95, u96, u97, u98, u99, u100, u101, u102, u103, u104, u105, u106, u107, u108, u109, u110, u111, u112, u113, u114, u115, u116, u117, u118, u119, u120, u121, u122, u123, u124, u125, u126, u127, u128, u129, u130, u131, u132, u133, u134, u135, u136, u137, u138, u139, u140, u141, u142, u143, u144, u145, u146, u147, u148, u149, u150, u151, u152, u153, u154, u155, u156, u157, u158, u159, u160, u161, u162, u163, u164, u165, u166, u167, u168, u169, u170, u171, u172, u173, u174, u175, u176, u177, u178, u179, u180, u181, u182, u183, u184, u185, u186, u187, u188, u189, u190, u191, u192, u193, u194, u195, u196, u197, u198, u199, u200, u201, u202, u203, u204, u205, u206, u207, u208, u209, u210, u211, u212, u213, u214, u215, u216, u217, u218, u219, u220, u221, u222, u223, u224, u225, u226, u227, u228, u229, u230, u231, u232, u233, u234, u235, u236, u237, u238, u239, u240, u241, u242, u243, u244, u245, u246, u247, u248, u249, u250, u251, u252, u253, u254, u255, u256, u257, u258, u259, u260, u261, u262, u263, u264, u265, u266, u267, u268, u269, u270, u271, u272, u273, u274, u275, u276, u277, u278, u279, u280, u281, u282, u283, u284, u285, u286, u287, u288, u289, u290, u291, u292, u293, u294, u295, u296, u297, u298, u299, u300, u301, u302, u303, u304, u305, u306, u307, u308, u309, u310, u311, u312, u313, u314, u315, u316, u317, u318, u319, u320, u321, u322, u323, u324, u325, u326, u327, u328, u329, u330, u331, u332, u333, u334, u335, u336, u337, u338, u339, u340, u341, u342, u343, u344], []⟩ w := by
  conv => arg 2; whnf
  obtain ⟨ca, cc, rfl, hcl, hcn⟩ := hc
  obtain ⟨va, vc, rfl, hvl, hvn⟩ := hv
  have HT := hid ht
  have j2 : w.cell? ⟨L, 2, none⟩ = some (.slice ca q.toList.length cc) := by rw [cell_of_row w L 2 _ _ _ hL]; rfl
  have j3 : w.cell? ⟨L, 3, none⟩ = some (.int .i64 (wlOf ds q)) := by rw [cell_of_row w L 3 _ _ _ hL]; rfl
  have j4 : w.cell? ⟨L, 4, none⟩ = some (.int .i64 0) := by rw [cell_of_row w L 4 _ _ _ hL]; rfl
  have HE := hid (eq_any ca va cc vc q.toList w (by cases q <;> simp [maxLen]) (by rw [hcn, hvn]) hcl hvl)
  have HB0 := hid hb0
  clear ht hL hcl hcn hvl hvn hb0
  go_wp2_with fail
  refine HE.out.mono ?_
  rintro e wx ⟨rfl, nx, rfl⟩
  go_wp2
  clear HE
  have HK := hid k23
  clear k23 k1 k21 j2 j3 j4
  go_loopw [310] (fun i wr => ∃ k : Nat, k ≤ m + 1 ∧ i = .int .i64 k ∧ Below w.heap.size w wr) (fun i _ => m + 1 - (intOf i).toNat)
  case atStart => exact ⟨0, Nat.zero_le _, rfl, below_drewN (Below.refl _ _) _⟩
  case round =>
    obtain ⟨k, hk, rfl, hbw⟩ := hrel
    by_cases hlt : k < m + 1
    · obtain ⟨I, a, a', ss, c, c', h1, h2, h3, h4, h5, h6, h7, h8, _⟩ := HT.out.later hbw k hlt
      have b1 : (0 : Int) ≤ (k : Int) := by omega
      have b2 : (k : Int) < (m : Int) + 1 := by omega
      have k23 := cell_later hbw HK.out
      have HQ : Hid (∀ n, Calls Yba.prog 7 #[.slice a ss.length c, .slice a' ss.length c'] (wr.drewN n) fun e w' => e = .returned (.bool true) ∧ ∃ p, w' = (wr.drewN n).drewN p) := fun n => eq_any a a' c c' ss _ (by unfold maxLen; omega) h5 (lies_later h6 (below_drewN (Below.refl _ _) _)) (lies_later h7 (below_drewN (Below.refl _ _) _))
      have HBW := hid hbw
      clear h5 h6 h7 h8 hbw
      go_wp2
      go_quiet ((go_at_call 7; exact Calls.quiet_of (HQ.out _)))
      go_wp2
      go_roundw
      case rel => exact ⟨k + 1, by omega, by go_num, below_drewN HBW.out _⟩
      case measure => simp [intOf]; omega
    · have HBW := hid hbw
      clear hbw
      go_wp2
      go_ret
      exact ⟨rfl, HB0.out.trans (HBW.out.mono HB0.out.size)⟩
end Go.Proofs.Ybulkebhu
