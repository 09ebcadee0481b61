import Derived.Test.YbulkebhuSegC2
import Derived.Handy
import Derived.Deep.DeepCutAuto
import Derived.Deep.CutBlock
namespace Go.Proofs.Ybulkebhu
open Go.RowKit
set_option linter.unusedVariables false

/-- A struct built, by what is reckoned of it once. -/
theorem wpList_built {P : Program} (w : World) {ops : Array Oper} {rest : List Oper} {o : Oper} {a : Act} {Q : Exit → Act → World → Prop} (hg : o.guard = none) (t : TypeId) (parts : Array (Nat × Operand)) (ho : o.op = .build t parts) (vs : Array (Nat × Value))
    (hvs : (parts.map fun p => (p.1, a.eval p.2)) = vs) (v : Value) (hr : (Instr.build t vs).run P w = .ok v w) (h : wpList P ops Q rest (a.put o.dst v) w) : wpList P ops Q (o :: rest) a w := by
  refine wpList_plain hg fun K hK => ?_
  subst hvs
  unfold Oper.wp
  simp only [execOp, ho]
  simp only [hr, Sem.run_bind, Result.andThen]
  exact hK _ _ h

theorem group_built (self : ByteArray) (commit : Int) (L g n cp : Nat) (w : World) : (Instr.build 68 #[(1, .string self), (4, .iface 31 (.pointer (some ⟨L, 0, none⟩))), (18, .int .u64 commit), (20, .slice (some ⟨g, 0, none⟩) n cp)]).run Yba.prog w =
    .ok (.agg #[.int .i64 0, .string self, .nilIface, .nilIface, .iface 31 (.pointer (some ⟨L, 0, none⟩)), .int .i32 0, .int .u32 0, .int .i32 0, .int .u32 0, .nilIface, .int .u64 0, .int .u32 0, .int .u64 0, .string ByteArray.empty, .string ByteArray.empty, .bool false, .bool false, .map none, .slice none 0 0, .int .u64 0, .int .u64 0, .int .u64 commit, .int .u64 0, .slice (some ⟨g, 0, none⟩) n cp, .int .u64 0, .int .i64 0, .pointer none, .int .u64 0, .int .i64 0, .pointer none, .int .i64 0, .map none, .map none, .map none, .map none, .map none, .map none, .map none, .map none, .int .i64 0, .int .i64 0, .chan none]) w := run_build w 68 _ _ (by kernel_rfl)

set_option maxHeartbeats 4000000 in
set_option maxRecDepth 100000 in
theorem segC1 {u0 u3 u4 u7 u8 u9 u10 u11 u12 u13 u14 u15 u16 u18 u21 u22 u23 u24 u25 u26 u27 u28 u29 u30 u31 u32 u33 u34 u35 u36 u37 u38 u39 u40 u41 u42 u43 u44 u45 u46 u47 u48 u49 u50 u51 u52 u53 u54 u55 u56 u57 u58 u59 u60 u61 u62 u63 u64 u65 u66 u67 u68 u69 u70 u71 u72 u73 u74 u75 u76 u77 u78 u79 u80 u81 u82 u83 u84 u85 u86 u87 u88 u89 u90 u91 u92 u93 u94 u95 u96 u97 u98 u99 u100 u101 u102 u103 u104 u105 u106 u107 u108 u109 u110 u111 u112 u113 u114 u115 u116 u117 u118 u119 u120 u121 u122 u123 u124 u125 u126 u127 u128 u129 u130 u131 u132 u133 u134 u135 u136 u137 u138 u139 u140 u141 u142 u143 u144 u145 u146 u147 u148 u149 u150 u151 u152 u153 u154 u155 u156 u157 u158 u159 u160 u161 u162 u163 u164 u165 u166 u167 u168 u169 u170 u171 u172 u173 u174 u175 u176 u177 u178 u179 u180 u181 u182 u183 u184 u185 u186 u187 u188 u189 u190 u191 u192 u193 u194 u195 u196 u197 u198 u199 u200 u201 u202 u203 u204 u205 u206 u207 u208 u209 u210 u211 u212 u213 u214 u215 u216 u217 u218 u219 u220 u221 u222 u223 u224 u225 u226 u227 u228 u229 u230 u231 u232 u233 u234 u235 u236 u237 u238 u239 u240 u241 u242 u243 u244 u245 u246 u247 u248 u249 u250 u251 u252 u253 u254 u255 u256 u257 u258 u259 u260 u261 u262 u263 u264 u265 u266 u267 u268 u269 u270 u271 u272 u273 u274 u275 u276 u277 u278 u279 u280 u281 u282 u283 u284 u285 u286 u287 u288 u289 u290 u291 u292 u293 u294 u295 u296 u297 u298 u299 u300 u301 u302 u303 u304 u305 u306 u307 u308 u309 u310 u311 u312 u313 u314 u315 u316 u317 u318 u319 u320 u321 u322 u323 u324 u325 u326 u327 u328 u329 u330 u331 u332 u333 u334 u335 u336 u337 u338 u339 u340 u341 u342 u343 u344 : Value} (commit : Int) (self : ByteArray) (g m cp gs : Nat) (ad : Option Addr) (cd : Nat) (ds : List ByteArray) (le : Bool) (w0 w : World) (hm : m + 1 ≤ 65537) (hb0 : Below w0.heap.size w0 w)
    (ht : Twin w g gs (m + 1)) (hd : Lies w ad ds) (hdl : ds.length * 16 ≤ 140737488351232) :
    Code.wp Yba.prog (dropSeq 12 (Yba.f3.body.getD .skip)) (bodyPost Yba.prog Yba.f3 (fun e w' => e = .returned (.bool true) ∧ Below w0.heap.size w0 w'))
      ⟨#[u0, .int .u64 commit, .string self, u3, u4, .slice ad ds.length cd, .bool le, u7, u8, u9, u10, u11, u12, u13, u14, u15, u16, .slice (some ⟨g, 0, none⟩) (m + 1) cp, u18, .int .i64 m, .slice (some ⟨gs, 0, none⟩) (m + 1) (m + 1), u21, u22, u23, u24, u25, u26, u27, u28, u29, u30, u31, u32, u33, u34, u35, u36, u37, u38, u39, u40, u41, u42, u43, u44, u45, u46, u47, u48, u49, u50, u51, u52, u53, u54, u55, u56, u57, u58, u59, u60, u61, u62, u63, u64, u65, u66, u67, u68, u69, u70, u71, u72, u73, u74, u75, u76, u77, u78, u79, u80, u81, u82, u83, u84, u85, u86, u87, u88, u89, u90, u91, u92, u93, u94, u95, u96, u97, u98, u99, u100, u101, u102, u103, u104, u105, u106, u107, u108, u109, u110, u111, u112, u113, u114, u115, u116, u117, u118, u119, u120, u121, u122, u123, u124, u125, u126, u127, u128, u129, u130, u131, u132, u133, u134, u135, u136, u137, u138, u139, u140, u141, u142, u143, u144, u145, u146, u147, u148, u149, u150, u151, u152, u153, u154, u155, u156, u157, u158, u159, u160, u161, u162, u163, u164, u165, u166, u167, u168, u169, u170, u171, u172, u173, u174, u175, u176, u177, u178, u179, u180, u181, u182, u183, u184, u185, u186, u187, u188, u189, u190, u191, u192, u193, u194, u195, u196, u197, u198, u199, u200, u201, u202, u203, u204, u205, u206, u207, u208, u209, u210, u211, u212, u213, u214, u215, u216, u217, u218, u219, u220, u221, u222, u223, u224, u225, u226, u227, u228, u229, u230, u231, u232, u233, u234, u235, u236, u237, u238, u239, u240, u241, u242, u243, u244, u245, u246, u247, u248, u249, u250, u251, u252, u253, u254, u255, u256, u257, u258, u259, u260, u261, u262, u263, u264, u265, u266, u267, u268, u269, u270, u271, u272, u273, u274, u275, u276, u277, u278, u279, u280, u281, u282, u283, u284, u285, u286, u287, u288, u289, u290, u291, u292, u293, u294, u295, u296, u297, u298, u299, u300, u301, u302, u303, u304, u305, u306, u307, u308, u309, u310, u311, u312, u313, u314, u315, u316, u317, u318, u319, u320, u321, u322, u323, u324, u325, u326, u327, u328, u329, u330, u331, u332, u333, u334, u335, u336, u337, u338, u339, u340, u341, u342, u343, u344], []⟩ w := by
  conv => arg 2; whnf
  have HT := hid ht
  have HD := hid hd
  have HB0 := hid hb0
  clear ht hd hb0
  go_wp2_with fail
  refine (copy_any ad cd ds w (by omega) HD.out).mono ?_
  rintro e w2 ⟨a1, c1, rfl, hn1, hb1, hl1, hblk⟩
  have HB1 := hid hb1
  have HL1 := hid hl1
  have HBK := hid hblk
  clear hn1 hb1 hl1 hblk
  have HGB := hid (group_built self commit w2.heap.size g (m + 1) cp)
  go_upto_region 32 with fail
  go_cut [23] (fun v wc => v = .pointer (some ⟨w2.heap.size + 1, 0, none⟩) ∧ wc.cell? ⟨w2.heap.size + 1, 1, none⟩ = some (.string self) ∧ wc.cell? ⟨w2.heap.size + 1, 21, none⟩ = some (.int .u64 commit) ∧
    wc.cell? ⟨w2.heap.size + 1, 23, none⟩ = some (.slice (some ⟨g, 0, none⟩) (m + 1) cp) ∧ wc.cell? ⟨w2.heap.size + 1, 4, none⟩ = some (.iface 31 (.pointer (some ⟨w2.heap.size, 0, none⟩))) ∧
    Live wc w2.heap.size (.slice a1 ds.length c1) le (.slice none 0 0) 0 ∧ Below w2.heap.size w2 wc)
  case first =>
    go_wp2_with (refine wpList_built _ rfl 68 _ rfl _ (by simp [go_sem]) _ (HGB.out _) ?_)
    go_meet
    case rel => exact ⟨rfl, by simp, by simp, by simp, by simp, (Below.heap_alloc _ _ _ (by simp)).trans (heap_alloc_new _ _), by go_grown⟩
  case rest =>
    obtain ⟨rfl, k1, k21, k23, k4, hL, hb2⟩ := hcut
    go_step
    exact segC2 commit self g m cp gs w2.heap.size (w2.heap.size + 1) ad cd a1 c1 ds le w0 w wc hm HB0.out (HB1.out.trans (hb2.mono HB1.out.size)) HT.out k1 k21 k23 k4 hL (lies_later HL1.out hb2) HD.out (by unfold maxLen; omega) (by omega)
      (fun x hx => by have := (HBK.out x hx).2.lt; omega) HB1.out.size
end Go.Proofs.Ybulkebhu
