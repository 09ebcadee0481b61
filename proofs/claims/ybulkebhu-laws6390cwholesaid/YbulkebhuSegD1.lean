import Derived.Test.YbulkebhuSegE
import Derived.Handy
import Derived.Deep.DeepCutAuto
import Derived.Deep.CutBlock
namespace Go.Proofs.Ybulkebhu
open Go.RowKit
set_option linter.unusedVariables false

set_option maxHeartbeats 4000000 in
set_option maxRecDepth 100000 in
theorem segD1 {u0 u3 u4 u7 u8 u9 u10 u11 u12 u13 u14 u15 u16 u18 u21 u25 u26 u27 u28 u29 u30 u31 u32 u33 u34 u35 u36 u37 u38 u39 u40 u41 u42 u43 u44 u45 u46 u47 u48 u49 u50 u51 u52 u53 u54 u55 u56 u57 u58 u59 u60 u61 u62 u63 u64 u65 u66 u67 u68 u69 u70 u71 u72 u73 u74 u75 u76 u77 u78 u79 u80 u81 u82 u83 u84 u85 u86 u87 u88 u89 u90 u91 u92 u93 u94 u95 u96 u97 u98 u99 u100 u101 u102 u103 u104 u105 u106 u107 u108 u109 u110 u111 u112 u113 u114 u115 u116 u117 u118 u119 u120 u121 u122 u123 u124 u125 u126 u127 u128 u129 u130 u131 u132 u133 u134 u135 u136 u137 u138 u139 u140 u141 u142 u143 u144 u145 u146 u147 u148 u149 u150 u151 u152 u153 u154 u155 u156 u157 u158 u159 u160 u161 u162 u163 u164 u165 u166 u167 u168 u169 u170 u171 u172 u173 u174 u175 u176 u177 u178 u179 u180 u181 u182 u183 u184 u185 u186 u187 u188 u189 u190 u191 u192 u193 u194 u195 u196 u197 u198 u199 u200 u201 u202 u203 u204 u205 u206 u207 u208 u209 u210 u211 u212 u213 u214 u215 u216 u217 u218 u219 u220 u221 u222 u223 u224 u225 u226 u227 u228 u229 u230 u231 u232 u233 u234 u235 u236 u237 u238 u239 u240 u241 u242 u243 u244 u245 u246 u247 u248 u249 u250 u251 u252 u253 u254 u255 u256 u257 u258 u259 u260 u261 u262 u263 u264 u265 u266 u267 u268 u269 u270 u271 u272 u273 u274 u275 u276 u277 u278 u279 u280 u281 u282 u283 u284 u285 u286 u287 u288 u289 u290 u291 u292 u293 u294 u295 u296 u297 u298 u299 u300 u301 u302 u303 u304 u305 u306 u307 u308 u309 u310 u311 u312 u313 u314 u315 u316 u317 u318 u319 u320 u321 u322 u323 u324 u325 u326 u327 u328 u329 u330 u331 u332 u333 u334 u335 u336 u337 u338 u339 u340 u341 u342 u343 u344 : Value} (commit : Int) (self : ByteArray) (g m cp gs L G : Nat) (ad : Option Addr) (cd : Nat) (res dv cv : Value) (ds : List ByteArray) (le : Bool) (w0 w : World) (hm : m + 1 ≤ 65537) (hb0 : Below w0.heap.size w0 w)
    (ht : Twin w g gs (m + 1)) (k1 : w.cell? ⟨G, 1, none⟩ = some (.string self)) (k21 : w.cell? ⟨G, 21, none⟩ = some (.int .u64 commit)) (k23 : w.cell? ⟨G, 23, none⟩ = some (.slice (some ⟨g, 0, none⟩) (m + 1) cp))
    (hL : Live w L dv le cv (wlOf ds none)) (hc : Few w cv none.toList)
    (hres : (aloneOf ds le none = true ∧ ∃ g2 b off c, res = .slice (some ⟨g2, 0, none⟩) 1 1 ∧ w.cell? ⟨g2, 0, none⟩ = some (.string self) ∧ w.cell? ⟨g, m * 2 + 1, none⟩ = some (.slice (some ⟨b, off, none⟩) 2 c) ∧ g2 ≠ b ∧ Mine w g2 ∧ Mine w b) ∨
      (aloneOf ds le none = false ∧ ∃ a n c, res = .slice a n c ∧ w.cell? ⟨g, m * 2 + 1, none⟩ = some (.slice a n c) ∧ n ≤ maxLen ∧ (n = 0 ∨ ∃ b off, a = some ⟨b, off, none⟩)))
    (I : Int) (a' : Option Addr) (n : Nat) (c' : Nat) (s1 : w.cell? ⟨gs, m * 2, none⟩ = some (.int .u64 I)) (s2 : w.cell? ⟨gs, m * 2 + 1, none⟩ = some (.slice a' n c'))
    (hne : ((n : Int) == 2) = false) (hd : Lies w ad ds) (hdl : ds.length ≤ maxLen) :
    Code.wp Yba.prog (dropSeq 15 (Yba.f3.body.getD .skip)) (bodyPost Yba.prog Yba.f3 (fun e w' => e = .returned (.bool true) ∧ Below w0.heap.size w0 w'))
      ⟨#[u0, .int .u64 commit, .string self, u3, u4, .slice ad ds.length cd, .bool le, u7, u8, u9, u10, u11, u12, u13, u14, u15, u16, .slice (some ⟨g, 0, none⟩) (m + 1) cp, u18, .int .i64 m, .slice (some ⟨gs, 0, none⟩) (m + 1) (m + 1), u21, .pointer (some ⟨L, 0, none⟩), .pointer (some ⟨G, 0, none⟩), res, u25, u26, u27, u28, u29, u30, u31, u32, u33, u34, u35, u36, u37, u38, u39, u40, u41, u42, u43, u44, u45, u46, u47, u48, u49, u50, u51, u52, u53, u54, u55, u56, u57, u58, u59, u60, u61, u62, u63, u64, u65, u66, u67, u68, u69, u70, u71, u72, u73, u74, u75, u76, u77, u78, u79, u80, u81, u82, u83, u84, u85, u86, u87, u88, u89, u90, u91, u92, u93, u94, u95, u96, u97, u98, u99, u100, u101, u102, u103, u104, u105, u106, u107, u108, u109, u110, u111, u112, u113, u114, u115, u116, u117, u118, u119, u120, u121, u122, u123, u124, u125, u126, u127, u128, u129, u130, u131, u132, u133, u134, u135, u136, u137, u138, u139, u140, u141, u142, u143, u144, u145, u146, u147, u148, u149, u150, u151, u152, u153, u154, u155, u156, u157, u158, u159, u160, u161, u162, u163, u164, u165, u166, u167, u168, u169, u170, u171, u172, u173, u174, u175, u176, u177, u178, u179, u180, u181, u182, u183, u184, u185, u186, u187, u188, u189, u190, u191, u192, u193, u194, u195, u196, u197, u198, u199, u200, u201, u202, u203, u204, u205, u206, u207, u208, u209, u210, u211, u212, u213, u214, u215, u216, u217, u218, u219, u220, u221, u222, u223, u224, u225, u226, u227, u228, u229, u230, u231, u232, u233, u234, u235, u236, u237, u238, u239, u240, u241, u242, u243, u244, u245, u246, u247, u248, u249, u250, u251, u252, u253, u254, u255, u256, u257, u258, u259, u260, u261, u262, u263, u264, u265, u266, u267, u268, u269, u270, u271, u272, u273, u274, u275, u276, u277, u278, u279, u280, u281, u282, u283, u284, u285, u286, u287, u288, u289, u290, u291, u292, u293, u294, u295, u296, u297, u298, u299, u300, u301, u302, u303, u304, u305, u306, u307, u308, u309, u310, u311, u312, u313, u314, u315, u316, u317, u318, u319, u320, u321, u322, u323, u324, u325, u326, u327, u328, u329, u330, u331, u332, u333, u334, u335, u336, u337, u338, u339, u340, u341, u342, u343, u344], []⟩ w := by
  conv => arg 2; whnf
  have HT := hid ht
  have HL := hid hL
  have HC := hid hc
  have HB0 := hid hb0
  have H1 := hid k1
  have H21 := hid k21
  have H23 := hid k23
  have HR := hid hres
  have HD := hid hd
  have hgs : gs < w.heap.size := World.block_lt_of_cell? _ _ s1
  have b1 : (0 : Int) ≤ (m : Int) := by omega
  have b2 : (m : Int) < (m : Int) + 1 := by omega
  clear ht hL hc hb0 k1 k21 k23 hres hd
  go_upto_if 183 with fail
  go_cut [26, 27, 28] (fun v26 v27 v28 wc => Below w.heap.size w wc ∧ Few wc v26 none.toList ∧ v27 = .int .i64 (wlOf ds none) ∧ v28 = .bool (aloneOf ds le none))
  case first =>
    go_wp2
    go_meet
    case rel => exact ⟨(Below.refl _ _).alloc (Nat.le_refl _) _, ⟨none, 0, rfl, Or.inl rfl, rfl⟩, rfl, rfl⟩
  case rest =>
    obtain ⟨hb, hf, rfl, rfl⟩ := hcut
    go_step
    exact segE commit self g m cp gs L G res _ dv cv ds le (aloneOf ds le none) none w0 wc hm (HB0.out.trans (hb.mono HB0.out.size)) (HT.out.later hb) (cell_later hb H1.out) (cell_later hb H21.out) (cell_later hb H23.out) (live_later HL.out hb) (HC.out.later hb) hf (res_later HR.out hb)

set_option maxHeartbeats 4000000 in
set_option maxRecDepth 100000 in
theorem segD2 {u0 u3 u4 u7 u8 u9 u10 u11 u12 u13 u14 u15 u16 u18 u21 u25 u26 u27 u28 u29 u30 u31 u32 u33 u34 u35 u36 u37 u38 u39 u40 u41 u42 u43 u44 u45 u46 u47 u48 u49 u50 u51 u52 u53 u54 u55 u56 u57 u58 u59 u60 u61 u62 u63 u64 u65 u66 u67 u68 u69 u70 u71 u72 u73 u74 u75 u76 u77 u78 u79 u80 u81 u82 u83 u84 u85 u86 u87 u88 u89 u90 u91 u92 u93 u94 u95 u96 u97 u98 u99 u100 u101 u102 u103 u104 u105 u106 u107 u108 u109 u110 u111 u112 u113 u114 u115 u116 u117 u118 u119 u120 u121 u122 u123 u124 u125 u126 u127 u128 u129 u130 u131 u132 u133 u134 u135 u136 u137 u138 u139 u140 u141 u142 u143 u144 u145 u146 u147 u148 u149 u150 u151 u152 u153 u154 u155 u156 u157 u158 u159 u160 u161 u162 u163 u164 u165 u166 u167 u168 u169 u170 u171 u172 u173 u174 u175 u176 u177 u178 u179 u180 u181 u182 u183 u184 u185 u186 u187 u188 u189 u190 u191 u192 u193 u194 u195 u196 u197 u198 u199 u200 u201 u202 u203 u204 u205 u206 u207 u208 u209 u210 u211 u212 u213 u214 u215 u216 u217 u218 u219 u220 u221 u222 u223 u224 u225 u226 u227 u228 u229 u230 u231 u232 u233 u234 u235 u236 u237 u238 u239 u240 u241 u242 u243 u244 u245 u246 u247 u248 u249 u250 u251 u252 u253 u254 u255 u256 u257 u258 u259 u260 u261 u262 u263 u264 u265 u266 u267 u268 u269 u270 u271 u272 u273 u274 u275 u276 u277 u278 u279 u280 u281 u282 u283 u284 u285 u286 u287 u288 u289 u290 u291 u292 u293 u294 u295 u296 u297 u298 u299 u300 u301 u302 u303 u304 u305 u306 u307 u308 u309 u310 u311 u312 u313 u314 u315 u316 u317 u318 u319 u320 u321 u322 u323 u324 u325 u326 u327 u328 u329 u330 u331 u332 u333 u334 u335 u336 u337 u338 u339 u340 u341 u342 u343 u344 : Value} (commit : Int) (self : ByteArray) (g m cp gs L G : Nat) (ad : Option Addr) (cd : Nat) (res dv cv : Value) (ds : List ByteArray) (le : Bool) (w0 w : World) (hm : m + 1 ≤ 65537) (hb0 : Below w0.heap.size w0 w)
    (ht : Twin w g gs (m + 1)) (k1 : w.cell? ⟨G, 1, none⟩ = some (.string self)) (k21 : w.cell? ⟨G, 21, none⟩ = some (.int .u64 commit)) (k23 : w.cell? ⟨G, 23, none⟩ = some (.slice (some ⟨g, 0, none⟩) (m + 1) cp))
    (hL : Live w L dv le cv (wlOf ds none)) (hc : Few w cv none.toList)
    (hres : (aloneOf ds le none = true ∧ ∃ g2 b off c, res = .slice (some ⟨g2, 0, none⟩) 1 1 ∧ w.cell? ⟨g2, 0, none⟩ = some (.string self) ∧ w.cell? ⟨g, m * 2 + 1, none⟩ = some (.slice (some ⟨b, off, none⟩) 2 c) ∧ g2 ≠ b ∧ Mine w g2 ∧ Mine w b) ∨
      (aloneOf ds le none = false ∧ ∃ a n c, res = .slice a n c ∧ w.cell? ⟨g, m * 2 + 1, none⟩ = some (.slice a n c) ∧ n ≤ maxLen ∧ (n = 0 ∨ ∃ b off, a = some ⟨b, off, none⟩)))
    (I : Int) (a' : Option Addr) (c' : Nat) (s1 : w.cell? ⟨gs, m * 2, none⟩ = some (.int .u64 I)) (s2 : w.cell? ⟨gs, m * 2 + 1, none⟩ = some (.slice a' 2 c'))
    (hlt : commit < I) (hd : Lies w ad ds) (hdl : ds.length ≤ maxLen) :
    Code.wp Yba.prog (dropSeq 15 (Yba.f3.body.getD .skip)) (bodyPost Yba.prog Yba.f3 (fun e w' => e = .returned (.bool true) ∧ Below w0.heap.size w0 w'))
      ⟨#[u0, .int .u64 commit, .string self, u3, u4, .slice ad ds.length cd, .bool le, u7, u8, u9, u10, u11, u12, u13, u14, u15, u16, .slice (some ⟨g, 0, none⟩) (m + 1) cp, u18, .int .i64 m, .slice (some ⟨gs, 0, none⟩) (m + 1) (m + 1), u21, .pointer (some ⟨L, 0, none⟩), .pointer (some ⟨G, 0, none⟩), res, u25, u26, u27, u28, u29, u30, u31, u32, u33, u34, u35, u36, u37, u38, u39, u40, u41, u42, u43, u44, u45, u46, u47, u48, u49, u50, u51, u52, u53, u54, u55, u56, u57, u58, u59, u60, u61, u62, u63, u64, u65, u66, u67, u68, u69, u70, u71, u72, u73, u74, u75, u76, u77, u78, u79, u80, u81, u82, u83, u84, u85, u86, u87, u88, u89, u90, u91, u92, u93, u94, u95, u96, u97, u98, u99, u100, u101, u102, u103, u104, u105, u106, u107, u108, u109, u110, u111, u112, u113, u114, u115, u116, u117, u118, u119, u120, u121, u122, u123, u124, u125, u126, u127, u128, u129, u130, u131, u132, u133, u134, u135, u136, u137, u138, u139, u140, u141, u142, u143, u144, u145, u146, u147, u148, u149, u150, u151, u152, u153, u154, u155, u156, u157, u158, u159, u160, u161, u162, u163, u164, u165, u166, u167, u168, u169, u170, u171, u172, u173, u174, u175, u176, u177, u178, u179, u180, u181, u182, u183, u184, u185, u186, u187, u188, u189, u190, u191, u192, u193, u194, u195, u196, u197, u198, u199, u200, u201, u202, u203, u204, u205, u206, u207, u208, u209, u210, u211, u212, u213, u214, u215, u216, u217, u218, u219, u220, u221, u222, u223, u224, u225, u226, u227, u228, u229, u230, u231, u232, u233, u234, u235, u236, u237, u238, u239, u240, u241, u242, u243, u244, u245, u246, u247, u248, u249, u250, u251, u252, u253, u254, u255, u256, u257, u258, u259, u260, u261, u262, u263, u264, u265, u266, u267, u268, u269, u270, u271, u272, u273, u274, u275, u276, u277, u278, u279, u280, u281, u282, u283, u284, u285, u286, u287, u288, u289, u290, u291, u292, u293, u294, u295, u296, u297, u298, u299, u300, u301, u302, u303, u304, u305, u306, u307, u308, u309, u310, u311, u312, u313, u314, u315, u316, u317, u318, u319, u320, u321, u322, u323, u324, u325, u326, u327, u328, u329, u330, u331, u332, u333, u334, u335, u336, u337, u338, u339, u340, u341, u342, u343, u344], []⟩ w := by
  conv => arg 2; whnf
  have HT := hid ht
  have HL := hid hL
  have HC := hid hc
  have HB0 := hid hb0
  have H1 := hid k1
  have H21 := hid k21
  have H23 := hid k23
  have HR := hid hres
  have HD := hid hd
  have hgs : gs < w.heap.size := World.block_lt_of_cell? _ _ s1
  have b1 : (0 : Int) ≤ (m : Int) := by omega
  have b2 : (m : Int) < (m : Int) + 1 := by omega
  clear ht hL hc hb0 k1 k21 k23 hres hd
  have hdd : decide (I ≤ commit) = false := by simp; omega
  go_upto_if 183 with fail
  go_cut [26, 27, 28] (fun v26 v27 v28 wc => Below w.heap.size w wc ∧ Few wc v26 none.toList ∧ v27 = .int .i64 (wlOf ds none) ∧ v28 = .bool (aloneOf ds le none))
  case first =>
    go_wp2
    go_meet
    case rel => exact ⟨(Below.refl _ _).alloc (Nat.le_refl _) _, ⟨none, 0, rfl, Or.inl rfl, rfl⟩, rfl, rfl⟩
  case rest =>
    obtain ⟨hb, hf, rfl, rfl⟩ := hcut
    go_step
    exact segE commit self g m cp gs L G res _ dv cv ds le (aloneOf ds le none) none w0 wc hm (HB0.out.trans (hb.mono HB0.out.size)) (HT.out.later hb) (cell_later hb H1.out) (cell_later hb H21.out) (cell_later hb H23.out) (live_later HL.out hb) (HC.out.later hb) hf (res_later HR.out hb)

set_option maxHeartbeats 4000000 in
set_option maxRecDepth 100000 in
theorem segD3 {u0 u3 u4 u7 u8 u9 u10 u11 u12 u13 u14 u15 u16 u18 u21 u25 u26 u27 u28 u29 u30 u31 u32 u33 u34 u35 u36 u37 u38 u39 u40 u41 u42 u43 u44 u45 u46 u47 u48 u49 u50 u51 u52 u53 u54 u55 u56 u57 u58 u59 u60 u61 u62 u63 u64 u65 u66 u67 u68 u69 u70 u71 u72 u73 u74 u75 u76 u77 u78 u79 u80 u81 u82 u83 u84 u85 u86 u87 u88 u89 u90 u91 u92 u93 u94 u95 u96 u97 u98 u99 u100 u101 u102 u103 u104 u105 u106 u107 u108 u109 u110 u111 u112 u113 u114 u115 u116 u117 u118 u119 u120 u121 u122 u123 u124 u125 u126 u127 u128 u129 u130 u131 u132 u133 u134 u135 u136 u137 u138 u139 u140 u141 u142 u143 u144 u145 u146 u147 u148 u149 u150 u151 u152 u153 u154 u155 u156 u157 u158 u159 u160 u161 u162 u163 u164 u165 u166 u167 u168 u169 u170 u171 u172 u173 u174 u175 u176 u177 u178 u179 u180 u181 u182 u183 u184 u185 u186 u187 u188 u189 u190 u191 u192 u193 u194 u195 u196 u197 u198 u199 u200 u201 u202 u203 u204 u205 u206 u207 u208 u209 u210 u211 u212 u213 u214 u215 u216 u217 u218 u219 u220 u221 u222 u223 u224 u225 u226 u227 u228 u229 u230 u231 u232 u233 u234 u235 u236 u237 u238 u239 u240 u241 u242 u243 u244 u245 u246 u247 u248 u249 u250 u251 u252 u253 u254 u255 u256 u257 u258 u259 u260 u261 u262 u263 u264 u265 u266 u267 u268 u269 u270 u271 u272 u273 u274 u275 u276 u277 u278 u279 u280 u281 u282 u283 u284 u285 u286 u287 u288 u289 u290 u291 u292 u293 u294 u295 u296 u297 u298 u299 u300 u301 u302 u303 u304 u305 u306 u307 u308 u309 u310 u311 u312 u313 u314 u315 u316 u317 u318 u319 u320 u321 u322 u323 u324 u325 u326 u327 u328 u329 u330 u331 u332 u333 u334 u335 u336 u337 u338 u339 u340 u341 u342 u343 u344 : Value} (commit : Int) (self : ByteArray) (g m cp gs L G : Nat) (ad : Option Addr) (cd : Nat) (res dv cv : Value) (ds : List ByteArray) (le : Bool) (w0 w : World) (hm : m + 1 ≤ 65537) (hb0 : Below w0.heap.size w0 w)
    (ht : Twin w g gs (m + 1)) (k1 : w.cell? ⟨G, 1, none⟩ = some (.string self)) (k21 : w.cell? ⟨G, 21, none⟩ = some (.int .u64 commit)) (k23 : w.cell? ⟨G, 23, none⟩ = some (.slice (some ⟨g, 0, none⟩) (m + 1) cp))
    (hL : Live w L dv le cv (wlOf ds none)) (hc : Few w cv none.toList)
    (hres : (aloneOf ds le none = true ∧ ∃ g2 b off c, res = .slice (some ⟨g2, 0, none⟩) 1 1 ∧ w.cell? ⟨g2, 0, none⟩ = some (.string self) ∧ w.cell? ⟨g, m * 2 + 1, none⟩ = some (.slice (some ⟨b, off, none⟩) 2 c) ∧ g2 ≠ b ∧ Mine w g2 ∧ Mine w b) ∨
      (aloneOf ds le none = false ∧ ∃ a n c, res = .slice a n c ∧ w.cell? ⟨g, m * 2 + 1, none⟩ = some (.slice a n c) ∧ n ≤ maxLen ∧ (n = 0 ∨ ∃ b off, a = some ⟨b, off, none⟩)))
    (I : Int) (b off : Nat) (x0 x1 : ByteArray) (c' : Nat) (s1 : w.cell? ⟨gs, m * 2, none⟩ = some (.int .u64 I)) (s2 : w.cell? ⟨gs, m * 2 + 1, none⟩ = some (.slice (some ⟨b, off, none⟩) 2 c')) (c0 : w.cell? ⟨b, off, none⟩ = some (.string x0)) (c1 : w.cell? ⟨b, off + 1, none⟩ = some (.string x1))
    (hle : I ≤ commit) (e0 : (x0.toList == self.toList) = false) (e1 : (x1.toList == self.toList) = false) (hd : Lies w ad ds) (hdl : ds.length ≤ maxLen) :
    Code.wp Yba.prog (dropSeq 15 (Yba.f3.body.getD .skip)) (bodyPost Yba.prog Yba.f3 (fun e w' => e = .returned (.bool true) ∧ Below w0.heap.size w0 w'))
      ⟨#[u0, .int .u64 commit, .string self, u3, u4, .slice ad ds.length cd, .bool le, u7, u8, u9, u10, u11, u12, u13, u14, u15, u16, .slice (some ⟨g, 0, none⟩) (m + 1) cp, u18, .int .i64 m, .slice (some ⟨gs, 0, none⟩) (m + 1) (m + 1), u21, .pointer (some ⟨L, 0, none⟩), .pointer (some ⟨G, 0, none⟩), res, u25, u26, u27, u28, u29, u30, u31, u32, u33, u34, u35, u36, u37, u38, u39, u40, u41, u42, u43, u44, u45, u46, u47, u48, u49, u50, u51, u52, u53, u54, u55, u56, u57, u58, u59, u60, u61, u62, u63, u64, u65, u66, u67, u68, u69, u70, u71, u72, u73, u74, u75, u76, u77, u78, u79, u80, u81, u82, u83, u84, u85, u86, u87, u88, u89, u90, u91, u92, u93, u94, u95, u96, u97, u98, u99, u100, u101, u102, u103, u104, u105, u106, u107, u108, u109, u110, u111, u112, u113, u114, u115, u116, u117, u118, u119, u120, u121, u122, u123, u124, u125, u126, u127, u128, u129, u130, u131, u132, u133, u134, u135, u136, u137, u138, u139, u140, u141, u142, u143, u144, u145, u146, u147, u148, u149, u150, u151, u152, u153, u154, u155, u156, u157, u158, u159, u160, u161, u162, u163, u164, u165, u166, u167, u168, u169, u170, u171, u172, u173, u174, u175, u176, u177, u178, u179, u180, u181, u182, u183, u184, u185, u186, u187, u188, u189, u190, u191, u192, u193, u194, u195, u196, u197, u198, u199, u200, u201, u202, u203, u204, u205, u206, u207, u208, u209, u210, u211, u212, u213, u214, u215, u216, u217, u218, u219, u220, u221, u222, u223, u224, u225, u226, u227, u228, u229, u230, u231, u232, u233, u234, u235, u236, u237, u238, u239, u240, u241, u242, u243, u244, u245, u246, u247, u248, u249, u250, u251, u252, u253, u254, u255, u256, u257, u258, u259, u260, u261, u262, u263, u264, u265, u266, u267, u268, u269, u270, u271, u272, u273, u274, u275, u276, u277, u278, u279, u280, u281, u282, u283, u284, u285, u286, u287, u288, u289, u290, u291, u292, u293, u294, u295, u296, u297, u298, u299, u300, u301, u302, u303, u304, u305, u306, u307, u308, u309, u310, u311, u312, u313, u314, u315, u316, u317, u318, u319, u320, u321, u322, u323, u324, u325, u326, u327, u328, u329, u330, u331, u332, u333, u334, u335, u336, u337, u338, u339, u340, u341, u342, u343, u344], []⟩ w := by
  conv => arg 2; whnf
  have HT := hid ht
  have HL := hid hL
  have HC := hid hc
  have HB0 := hid hb0
  have H1 := hid k1
  have H21 := hid k21
  have H23 := hid k23
  have HR := hid hres
  have HD := hid hd
  have hgs : gs < w.heap.size := World.block_lt_of_cell? _ _ s1
  have b1 : (0 : Int) ≤ (m : Int) := by omega
  have b2 : (m : Int) < (m : Int) + 1 := by omega
  clear ht hL hc hb0 k1 k21 k23 hres hd
  have hdd : decide (I ≤ commit) = true := by simp; omega
  have hbl : b < w.heap.size := World.block_lt_of_cell? _ _ c0
  go_upto_if 183 with fail
  go_cut [26, 27, 28] (fun v26 v27 v28 wc => Below w.heap.size w wc ∧ Few wc v26 none.toList ∧ v27 = .int .i64 (wlOf ds none) ∧ v28 = .bool (aloneOf ds le none))
  case first =>
    go_wp2
    go_meet
    case rel => exact ⟨(Below.refl _ _).alloc (Nat.le_refl _) _, ⟨none, 0, rfl, Or.inl rfl, rfl⟩, rfl, rfl⟩
  case rest =>
    obtain ⟨hb, hf, rfl, rfl⟩ := hcut
    go_step
    exact segE commit self g m cp gs L G res _ dv cv ds le (aloneOf ds le none) none w0 wc hm (HB0.out.trans (hb.mono HB0.out.size)) (HT.out.later hb) (cell_later hb H1.out) (cell_later hb H21.out) (cell_later hb H23.out) (live_later HL.out hb) (HC.out.later hb) hf (res_later HR.out hb)
end Go.Proofs.Ybulkebhu
