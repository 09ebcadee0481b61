import Derived.Test.YbulkebjkSegE
namespace Go.Proofs.Ybulkebjk
open Go.RowKit
set_option linter.unusedVariables false

theorem Yba.nil41 (w : World) : (binOp .neq 41 (.pointer none) (.pointer none)).run Yba.prog w = .ok (.bool false) w := by
  have h : ∀ d : Nat, (Op.equalIn (d + 1) 41 (.pointer none) (.pointer none)).run Yba.prog w = .ok true w := fun d => by
    simp [Op.equalIn, run_underlying Yba.underlying41]
  simp only [binOp]
  simp [Op.equal, Op.maxDepth, h 9999]
theorem Yba.nil25 (w : World) : (binOp .neq 25 (.pointer none) (.pointer none)).run Yba.prog w = .ok (.bool false) w := by
  have h : ∀ d : Nat, (Op.equalIn (d + 1) 25 (.pointer none) (.pointer none)).run Yba.prog w = .ok true w := fun d => by
    simp [Op.equalIn, run_underlying Yba.underlying25]
  simp only [binOp]
  simp [Op.equal, Op.maxDepth, h 9999]
theorem Yba.nil24 (w : World) : (binOp .neq 24 (.slice none 0 0) (.slice none 0 0)).run Yba.prog w = .ok (.bool false) w := by
  simp only [binOp]
  simp [show Op.equal 24 (.slice none 0 0) (.slice none 0 0) = Op.equalIn (9999 + 1) 24 (.slice none 0 0) (.slice none 0 0) from rfl, run_equalIn_slice_nil w 9999 24 25 none 0 0 Yba.underlying24]
attribute [local go_sem] Yba.nil41 Yba.nil25 Yba.nil24

set_option maxHeartbeats 4000000 in
set_option maxRecDepth 100000 in
theorem segD {u0 u1 u2 u3 u4 u7 u9 u10 u11 u13 u14 u15 u16 u17 u18 u19 u20 u21 u22 u23 u24 u25 u26 u27 u28 u29 u30 u31 u32 u33 u34 u35 u36 u37 u38 u39 u40 u41 u42 u43 u44 u45 u46 u47 u48 u49 u50 u51 u52 u53 u54 u55 u56 u57 u58 u59 u60 u61 u62 u63 u64 u65 u66 u67 u68 u69 u70 u71 u72 u73 u74 u75 u76 u77 u78 u79 u80 u81 u82 u83 u84 u85 u86 u87 u88 u89 u90 u91 u92 u93 u94 u95 u96 u97 u98 u99 u100 u101 u102 u103 u104 u105 u106 u107 u108 u109 u110 u111 u112 u113 u114 u115 u116 u117 u118 u119 u120 u121 u122 u123 u124 u125 u126 u127 u128 u129 u130 u131 u132 u133 u134 u135 u136 u137 u138 u139 u140 u141 u142 u143 u144 u145 u146 u147 u148 u149 u150 u151 u152 u153 u154 u155 u156 u157 u158 u159 u160 u161 u162 u163 u164 u165 u166 u167 u168 u169 u170 u171 u172 u173 u174 u175 u176 u177 u178 u179 u180 u181 u182 u183 u184 u185 u186 u187 u188 u189 u190 u191 u192 u193 u194 u195 u196 u197 u198 u199 u200 u201 u202 u203 u204 u205 u206 u207 u208 u209 u210 u211 u212 u213 : Value} (n g gp gm gs : Nat) (p : Nat → Nat) (W w : World) (hn : n ≤ 65536) (hb : Below W.heap.size W w) (hs : St w g gp gm n p) (k0 : w.cell? ⟨gs, 0, none⟩ = some (.pointer none)) (k1 : w.cell? ⟨gs, 1, none⟩ = some (key g 0)) (k2 : w.cell? ⟨gs, 2, none⟩ = some (.map (some gm))) (k3 : w.cell? ⟨gs, 3, none⟩ = some (.slice none 0 0)) :
    Code.wp Yba.prog (dropSeq 18 (Yba.f3.body.getD .skip)) (bodyPost Yba.prog Yba.f3 (fun e w' => e = .returned (.bool true) ∧ Below W.heap.size W w'))
      ⟨(List.toArray (u0 :: u1 :: u2 :: u3 :: u4 :: .int .i64 n :: .slice (some ⟨g, 0, none⟩) (n + 1) (n + 1) :: u7 :: .slice (some ⟨gp, 0, none⟩) (n + 1) (n + 1) :: u9 :: u10 :: u11 :: .pointer (some ⟨gs, 0, none⟩) :: u13 :: u14 :: u15 :: u16 :: u17 :: u18 :: u19 :: u20 :: u21 :: u22 :: u23 :: u24 :: u25 :: u26 :: u27 :: u28 :: u29 :: u30 :: u31 :: u32 :: u33 :: u34 :: u35 :: u36 :: u37 :: u38 :: u39 :: u40 :: u41 :: u42 :: u43 :: u44 :: u45 :: u46 :: u47 :: u48 :: u49 :: u50 :: u51 :: u52 :: u53 :: u54 :: u55 :: u56 :: u57 :: u58 :: u59 :: u60 :: u61 :: u62 :: u63 :: u64 :: u65 :: u66 :: u67 :: u68 :: u69 :: u70 :: u71 :: u72 :: u73 :: u74 :: u75 :: u76 :: u77 :: u78 :: u79 :: u80 :: u81 :: u82 :: u83 :: u84 :: u85 :: u86 :: u87 :: u88 :: u89 :: u90 :: u91 :: u92 :: u93 :: u94 :: u95 :: u96 :: u97 :: u98 :: u99 :: u100 :: u101 :: u102 :: u103 :: u104 :: u105 :: u106 :: u107 :: u108 :: u109 :: u110 :: u111 :: u112 :: u113 :: u114 :: u115 :: u116 :: u117 :: u118 :: u119 :: u120 :: u121 :: u122 :: u123 :: u124 :: u125 :: u126 :: u127 :: u128 :: u129 :: u130 :: u131 :: u132 :: u133 :: u134 :: u135 :: u136 :: u137 :: u138 :: u139 :: u140 :: u141 :: u142 :: u143 :: u144 :: u145 :: u146 :: u147 :: u148 :: u149 :: u150 :: u151 :: u152 :: u153 :: u154 :: u155 :: u156 :: u157 :: u158 :: u159 :: u160 :: u161 :: u162 :: u163 :: u164 :: u165 :: u166 :: u167 :: u168 :: u169 :: u170 :: u171 :: u172 :: u173 :: u174 :: u175 :: u176 :: u177 :: u178 :: u179 :: u180 :: u181 :: u182 :: u183 :: u184 :: u185 :: u186 :: u187 :: u188 :: u189 :: u190 :: u191 :: u192 :: u193 :: u194 :: u195 :: u196 :: u197 :: u198 :: u199 :: u200 :: u201 :: u202 :: u203 :: u204 :: u205 :: u206 :: u207 :: u208 :: u209 :: u210 :: u211 :: u212 :: u213 :: [])), []⟩ w := by
  conv => arg 2; whnf
  have HB := hid hb
  have HS := hid hs
  have K2 := hid k2
  have e0 := hs.tx 0 (by omega)
  have hq : ∀ m, (binOp .neq 25 (key g 0) (key g 0)).run Yba.prog (w.drewN m) = .ok (.bool false) (w.drewN m) := fun m => by
    have h := neqp (w := w.drewN m) (hs.mine 0 (by omega)) (hs.mine 0 (by omega))
    simpa using h
  have hl : ∀ m, (Instr.lookup 39 (.map (some gm)) (key g 0) true).run Yba.prog (w.drewN m) = .ok (.tuple #[.pointer none, .bool true]) (w.drewN m) := fun m => by
    have h := lookup_run (w := w.drewN m) hs.mine (by omega : 0 < n + 1) hs.map true
    simpa [val] using h
  have hmp := hs.map
  have hsz : (ents g p (n + 1)).size = n + 1 := by simp [ents]
  have b1 : (0 : Int) < (n : Int) + 1 := by omega
  have hlm : ∀ m, (Builtin.len_ #[39] 3 #[.map (some gm)]).run Yba.prog (w.drewN m) = .ok (.int .i64 ((n : Int) + 1)) (w.drewN m) := fun m => by
    have h := run_len_map (P := Yba.prog) (w := w.drewN m) 39 3 gm _ _ (by kernel_rfl) hmp
    rw [h, hsz, goInt]
    simp
  have bw : IntKind.i64.wrap ((n : Int) + 1) = (n : Int) + 1 := by rw [IntKind.wrap_i64]; omega
  clear hb hs hmp hsz
  go_wp2
  go_quiet (fail)
  go_wp2
  go_quiet (fail)
  go_upto_if 183 with fail
  go_step
  go_step
  go_step
  go_step
  exact segE n g gp gm gs p W _ hn (quiet_below _ _ HB.out _) (HS.out.later (quiet_below _ _ (Below.refl _ _) _)) K2.out

end Go.Proofs.Ybulkebjk
