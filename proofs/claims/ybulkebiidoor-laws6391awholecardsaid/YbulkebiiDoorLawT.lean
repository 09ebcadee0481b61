import Derived.Test.YbulkebiiDoorReadF
namespace Go.Proofs.YbulkebiiDoor
open Go.RowKit
set_option linter.unusedVariables false

theorem Ybad.eql94 (pe : Addr) (W : World) : (binOp .eql 38 (.iface 94 (.pointer (some pe))) (.iface 94 (.pointer (some pe)))).run Ybad.prog W = .ok (.bool true) W := by
  obtain ⟨i, hi, hcmp⟩ := Option.map_eq_some_iff.1 (show (Ybad.prog.info? 94).map (·.comparable) = some true by kernel_rfl)
  obtain ⟨j, hj, hjs⟩ := Option.map_eq_some_iff.1 (show (Ybad.prog.info? 96).map (·.size) = some 1 by kernel_rfl)
  exact run_eql_iface_ptr_same (P := Ybad.prog) W pe Ybad.underlying38 Ybad.underlying94 hi hcmp hj
attribute [local go_sem] Ybad.eql94

theorem eqIn_none (d : Nat) (w : World) : (Op.equalIn (d + 1) 30 (.pointer none) (.pointer none)).run Ybad.prog w = .ok true w := by
  obtain ⟨e, j, h1, h2, _⟩ := pointee
  simp [Op.equalIn, run_underlying h1]

theorem Ybad.assert48 (v : Value) (W : World) : (Instr.typeAssert (.iface 48 v) 38 48 true).run Ybad.prog W = .ok (.tuple #[v, .bool true]) W := by
  simp [Instr.typeAssert]
attribute [local go_sem] Ybad.assert48

theorem Ybad.eqlNil23 (a : Option Addr) (n c : Nat) (W : World) : (binOp .eql 23 (.slice a n c) (.slice none 0 0)).run Ybad.prog W = .ok (.bool a.isNone) W := by
  simp only [binOp]
  simp [show Op.equal 23 (.slice a n c) (.slice none 0 0) = Op.equalIn (9999 + 1) 23 (.slice a n c) (.slice none 0 0) from rfl, run_equalIn_slice_nil W 9999 23 5 a n c Ybad.underlying23]
attribute [local go_sem] Ybad.eqlNil23

set_option maxHeartbeats 4000000 in
set_option maxRecDepth 100000 in
theorem lawT {u4 u5 u6 u7 u8 u10 u14 u15 u16 u17 u18 u19 u20 u21 u22 u23 u24 u25 u26 u27 u28 u29 u30 u31 u32 u33 u34 u35 u36 u37 u38 u39 u40 u41 u42 u43 u44 u45 u46 u47 u48 u49 u50 u51 u52 u53 u54 u55 u56 u57 u58 u59 u60 u61 u62 u63 u64 u65 u66 u67 u68 u69 u70 u71 u72 u73 u74 u75 u76 u77 u78 u79 u80 u81 u82 u83 u84 u85 u86 u87 u88 u89 u90 u91 u92 u93 u94 u95 u96 u97 u98 u99 u100 u101 u102 u103 u104 u105 u106 u107 u108 u109 u110 u111 u112 u113 u114 u115 u116 u117 u118 u119 u120 u121 u122 u123 u124 u125 u126 u127 u128 u129 u130 u131 u132 u133 u134 u135 u136 u137 u138 u139 u140 u141 u142 u143 u144 u145 u146 u147 u148 u149 u150 u151 u152 u153 u154 u155 u156 u157 u158 u159 u160 u161 u162 u163 u164 u165 u166 u167 u168 u169 u170 u171 u172 u173 u174 u175 u176 u177 u178 u179 u180 u181 u182 u183 : Value} (code flags vendor : Int) (a a2 : Option Addr) (n c c2 g11 ge : Nat) (pe : Addr) (w0 w : World) (zs : List Int) (hn : n = zs.length) (hx : Byt w a zs) (hx2 : Byt w a2 zs) (hb : Below w0.heap.size w0 w) (k0 : w.cell? ⟨0, 0, none⟩ = some (.iface 94 (.pointer (some pe)))) (h11 : w.heap[g11]? = some (.cells #[.int .u64 0, .int .u64 0, .pointer none, .int .u8 0] 36 (0, 0))) (he : w.heap[ge]? = some (.cells #[.iface 94 (.pointer (some pe)), .int .u32 code, .int .u8 flags, .int .u32 vendor, .slice a n c] 51 (0, 0))) :
    Code.wp Ybad.prog (dropSeq 11 (Ybad.f3.body.getD .skip)) (bodyPost Ybad.prog Ybad.f3 (fun e w' => e = .returned (.bool true) ∧ Below w0.heap.size w0 w'))
      ⟨#[.int .u32 code, .int .u8 flags, .int .u32 vendor, .slice a n c, u4, u5, u6, u7, u8, .slice a2 n c2, u10, .pointer (some ⟨g11, 0, none⟩), .iface 48 (.pointer (some ⟨ge, 0, none⟩)), .bool false, u14, u15, u16, u17, u18, u19, u20, u21, u22, u23, u24, u25, u26, u27, u28, u29, u30, u31, u32, u33, u34, u35, u36, u37, u38, u39, u40, u41, u42, u43, u44, u45, u46, u47, u48, u49, u50, u51, u52, u53, u54, u55, u56, u57, u58, u59, u60, u61, u62, u63, u64, u65, u66, u67, u68, u69, u70, u71, u72, u73, u74, u75, u76, u77, u78, u79, u80, u81, u82, u83, u84, u85, u86, u87, u88, u89, u90, u91, u92, u93, u94, u95, u96, u97, u98, u99, u100, u101, u102, u103, u104, u105, u106, u107, u108, u109, u110, u111, u112, u113, u114, u115, u116, u117, u118, u119, u120, u121, u122, u123, u124, u125, u126, u127, u128, u129, u130, u131, u132, u133, u134, u135, u136, u137, u138, u139, u140, u141, u142, u143, u144, u145, u146, u147, u148, u149, u150, u151, u152, u153, u154, u155, u156, u157, u158, u159, u160, u161, u162, u163, u164, u165, u166, u167, u168, u169, u170, u171, u172, u173, u174, u175, u176, u177, u178, u179, u180, u181, u182, u183], []⟩ w := by
  conv => arg 2; whnf
  have HN := hid hn
  have HX := hid hx
  have HX2 := hid hx2
  have HB := hid hb
  have l0 : 0 < w.heap.size := World.block_lt_of_cell? _ _ k0
  have l1 : g11 < w.heap.size := lt_of_block h11
  have l2 : ge < w.heap.size := lt_of_block he
  have p0 : w.cell? ⟨g11, 0, none⟩ = some (.int .u64 0) := by rw [cell_of_row w g11 _ _ _ _ h11]; rfl
  have p1 : w.cell? ⟨g11, 1, none⟩ = some (.int .u64 0) := by rw [cell_of_row w g11 _ _ _ _ h11]; rfl
  have p2 : w.cell? ⟨g11, 2, none⟩ = some (.pointer none) := by rw [cell_of_row w g11 _ _ _ _ h11]; rfl
  have p3 : w.cell? ⟨g11, 3, none⟩ = some (.int .u8 0) := by rw [cell_of_row w g11 _ _ _ _ h11]; rfl
  have e0 : w.cell? ⟨ge, 0, none⟩ = some (.iface 94 (.pointer (some pe))) := by rw [cell_of_row w ge _ _ _ _ he]; rfl
  have e1 : w.cell? ⟨ge, 1, none⟩ = some (.int .u32 code) := by rw [cell_of_row w ge _ _ _ _ he]; rfl
  have e2 : w.cell? ⟨ge, 2, none⟩ = some (.int .u8 flags) := by rw [cell_of_row w ge _ _ _ _ he]; rfl
  have e3 : w.cell? ⟨ge, 3, none⟩ = some (.int .u32 vendor) := by rw [cell_of_row w ge _ _ _ _ he]; rfl
  have e4 : w.cell? ⟨ge, 4, none⟩ = some (.slice a n c) := by rw [cell_of_row w ge _ _ _ _ he]; rfl
  clear hn hx hx2 hb h11 he
  have qn := eqIn_none
  have HE := hid (fun W h h' => equal_any a a2 c c2 zs W h h')
  dsimp only
  go_upto_region 35 with fail
  clear qn p0 p1 p2 p3
  have HQ : Hid (∀ m, Calls Ybad.prog 6 #[.slice a n c, .slice a2 n c2] (w.drewN m) fun e w' => e = .returned (.bool true) ∧ w' = w.drewN m) := hid (fun m => by rw [HN.out]; exact HE.out _ (HX.out.later (quiet_below _ _ (Below.refl _ _) _)) (HX2.out.later (quiet_below _ _ (Below.refl _ _) _)))
  go_quiet (first | (go_at_call 6; exact Calls.quiet_of_same (HQ.out _)))
  go_wp2
  go_returns
  exact ⟨rfl, quiet_below _ _ HB.out _⟩
end Go.Proofs.YbulkebiiDoor
