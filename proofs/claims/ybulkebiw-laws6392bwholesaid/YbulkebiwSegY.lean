import Derived.Test.YbulkebiwSegZ
namespace Go.Proofs.Ybulkebiw
open Go.RowKit
set_option linter.unusedVariables false
attribute [local go_sem] nil74 str9 pin68 pin73 pin83 pin84 pin85 pin86 pin87 pin88 pin89

set_option maxHeartbeats 4000000 in
set_option maxRecDepth 100000 in
theorem segY {u1 u2 u3 u4 u5 u6 u8 u10 u11 u12 u13 u14 u15 u16 u18 u21 u23 u24 u25 u26 u27 u28 u29 u30 u31 u32 u33 u34 u35 u36 u37 u38 u39 u40 u41 u42 u43 u44 u45 u46 u47 u48 u49 u50 u51 u52 u53 u54 u55 u56 u57 u58 u59 u60 u61 u62 u63 u64 u65 u66 u67 u68 u69 u70 u71 u72 u73 u74 u75 u76 u77 u78 u79 u80 u81 u82 u83 u84 u85 u86 u87 u88 u89 u90 u91 u92 u93 u94 u95 u96 u97 u98 u99 u100 u101 u102 u103 u104 u105 u106 u107 u108 u109 u110 u111 u112 u113 u114 u115 u116 u117 u118 u119 u120 u121 u122 u123 u124 u125 u126 u127 u128 u129 u130 u131 u132 u133 u134 u135 u136 u137 u138 u139 u140 u141 u142 u143 u144 u145 u146 u147 u148 u149 u150 u151 u152 u153 u154 u155 u156 u157 u158 u159 u160 u161 u162 u163 u164 u165 u166 u167 u168 u169 u170 u171 u172 u173 u174 u175 u176 u177 u178 u179 u180 u181 u182 u183 u184 u185 u186 u187 u188 u189 u190 u191 u192 u193 u194 u195 u196 u197 u198 u199 u200 u201 u202 u203 u204 u205 u206 u207 u208 u209 u210 u211 u212 u213 u214 u215 u216 u217 u218 u219 u220 u221 u222 u223 u224 u225 u226 u227 : Value} (n rb ro rc gr go gv gp gc cc gg gw : Nat) (D : Dat) (M O L : Nat → Option Addr) (P : Nat → Int) (t i p : ByteArray) (X1 X2 : Int) (m l : Option Addr) (W w : World) (hn : n ≤ 1048576) (hb : Below W.heap.size W w) (hin : In w rb ro n D) (hd : Db w gr go n D M O L) (v0 : w.cell? ⟨gv, 0, none⟩ = some (.slice (some ⟨gr, 0, none⟩) n n)) (v1 : w.cell? ⟨gv, 1, none⟩ = some (.slice (some ⟨gp, 0, none⟩) n n))
    (hp : ∀ i, i < n → w.cell? ⟨gp, i, none⟩ = some (.int .i64 (P i))) (hc : ∀ i, i < n → w.cell? ⟨gc, i, none⟩ = some (.int .i64 (P i))) (hgg : w.heap[gg]? = some (.cells (E14 t i p X1 X2 m l) 91 (0, 0))) (hgw : w.heap[gw]? = some (.cells (E14 t i p X1 X2 m l) 91 (0, 0))) :
    Code.wp Yba.prog (dropSeq 17 (Yba.f4.body.getD .skip)) (bodyPost Yba.prog Yba.f4 (fun e w' => e = .returned (.bool true) ∧ Below W.heap.size W w'))
      ⟨(List.toArray (.slice (some ⟨rb, ro, none⟩) n rc :: u1 :: u2 :: u3 :: u4 :: u5 :: u6 :: .int .i64 n :: u8 :: .slice (some ⟨go, 0, none⟩) n n :: u10 :: u11 :: u12 :: u13 :: u14 :: u15 :: u16 :: .slice (some ⟨gc, 0, none⟩) n cc :: u18 :: .pointer (some ⟨gv, 0, none⟩) :: .pointer (some ⟨gg, 0, none⟩) :: u21 :: .pointer (some ⟨gw, 0, none⟩) :: u23 :: u24 :: u25 :: u26 :: u27 :: u28 :: u29 :: u30 :: u31 :: u32 :: u33 :: u34 :: u35 :: u36 :: u37 :: u38 :: u39 :: u40 :: u41 :: u42 :: u43 :: u44 :: u45 :: u46 :: u47 :: u48 :: u49 :: u50 :: u51 :: u52 :: u53 :: u54 :: u55 :: u56 :: u57 :: u58 :: u59 :: u60 :: u61 :: u62 :: u63 :: u64 :: u65 :: u66 :: u67 :: u68 :: u69 :: u70 :: u71 :: u72 :: u73 :: u74 :: u75 :: u76 :: u77 :: u78 :: u79 :: u80 :: u81 :: u82 :: u83 :: u84 :: u85 :: u86 :: u87 :: u88 :: u89 :: u90 :: u91 :: u92 :: u93 :: u94 :: u95 :: u96 :: u97 :: u98 :: u99 :: u100 :: u101 :: u102 :: u103 :: u104 :: u105 :: u106 :: u107 :: u108 :: u109 :: u110 :: u111 :: u112 :: u113 :: u114 :: u115 :: u116 :: u117 :: u118 :: u119 :: u120 :: u121 :: u122 :: u123 :: u124 :: u125 :: u126 :: u127 :: u128 :: u129 :: u130 :: u131 :: u132 :: u133 :: u134 :: u135 :: u136 :: u137 :: u138 :: u139 :: u140 :: u141 :: u142 :: u143 :: u144 :: u145 :: u146 :: u147 :: u148 :: u149 :: u150 :: u151 :: u152 :: u153 :: u154 :: u155 :: u156 :: u157 :: u158 :: u159 :: u160 :: u161 :: u162 :: u163 :: u164 :: u165 :: u166 :: u167 :: u168 :: u169 :: u170 :: u171 :: u172 :: u173 :: u174 :: u175 :: u176 :: u177 :: u178 :: u179 :: u180 :: u181 :: u182 :: u183 :: u184 :: u185 :: u186 :: u187 :: u188 :: u189 :: u190 :: u191 :: u192 :: u193 :: u194 :: u195 :: u196 :: u197 :: u198 :: u199 :: u200 :: u201 :: u202 :: u203 :: u204 :: u205 :: u206 :: u207 :: u208 :: u209 :: u210 :: u211 :: u212 :: u213 :: u214 :: u215 :: u216 :: u217 :: u218 :: u219 :: u220 :: u221 :: u222 :: u223 :: u224 :: u225 :: u226 :: u227 :: [])), []⟩ w := by
  conv => arg 2; whnf
  have HB := hid hb
  have HI := hid hin
  have HD := hid hd
  have V0 := hid v0
  have HE := hid (equal_any gp gc n cc n P w hn hp hc)
  have d0 : w.cell? ⟨gg, 0, none⟩ = some (.string t) := by rw [cell_of_row w gg _ _ _ _ hgg]; rfl
  have d1 : w.cell? ⟨gg, 1, none⟩ = some (.string i) := by rw [cell_of_row w gg _ _ _ _ hgg]; rfl
  have d2 : w.cell? ⟨gg, 2, none⟩ = some (.string p) := by rw [cell_of_row w gg _ _ _ _ hgg]; rfl
  have d3 : w.cell? ⟨gg, 3, none⟩ = some (.int .u64 X1) := by rw [cell_of_row w gg _ _ _ _ hgg]; rfl
  have d4 : w.cell? ⟨gg, 4, none⟩ = some (.int .i64 X2) := by rw [cell_of_row w gg _ _ _ _ hgg]; rfl
  have d5 : w.cell? ⟨gg, 5, none⟩ = some (.pointer none) := by rw [cell_of_row w gg _ _ _ _ hgg]; rfl
  have d6 : w.cell? ⟨gg, 6, none⟩ = some (.pointer m) := by rw [cell_of_row w gg _ _ _ _ hgg]; rfl
  have d7 : w.cell? ⟨gg, 7, none⟩ = some (.pointer none) := by rw [cell_of_row w gg _ _ _ _ hgg]; rfl
  have d8 : w.cell? ⟨gg, 8, none⟩ = some (.pointer none) := by rw [cell_of_row w gg _ _ _ _ hgg]; rfl
  have d9 : w.cell? ⟨gg, 9, none⟩ = some (.pointer l) := by rw [cell_of_row w gg _ _ _ _ hgg]; rfl
  have d10 : w.cell? ⟨gg, 10, none⟩ = some (.pointer none) := by rw [cell_of_row w gg _ _ _ _ hgg]; rfl
  have d11 : w.cell? ⟨gg, 11, none⟩ = some (.pointer none) := by rw [cell_of_row w gg _ _ _ _ hgg]; rfl
  have d12 : w.cell? ⟨gg, 12, none⟩ = some (.pointer none) := by rw [cell_of_row w gg _ _ _ _ hgg]; rfl
  have d13 : w.cell? ⟨gg, 13, none⟩ = some (.pointer none) := by rw [cell_of_row w gg _ _ _ _ hgg]; rfl
  have o0 : w.cell? ⟨gw, 0, none⟩ = some (.string t) := by rw [cell_of_row w gw _ _ _ _ hgw]; rfl
  have o1 : w.cell? ⟨gw, 1, none⟩ = some (.string i) := by rw [cell_of_row w gw _ _ _ _ hgw]; rfl
  have o2 : w.cell? ⟨gw, 2, none⟩ = some (.string p) := by rw [cell_of_row w gw _ _ _ _ hgw]; rfl
  have o3 : w.cell? ⟨gw, 3, none⟩ = some (.int .u64 X1) := by rw [cell_of_row w gw _ _ _ _ hgw]; rfl
  have o4 : w.cell? ⟨gw, 4, none⟩ = some (.int .i64 X2) := by rw [cell_of_row w gw _ _ _ _ hgw]; rfl
  have o5 : w.cell? ⟨gw, 5, none⟩ = some (.pointer none) := by rw [cell_of_row w gw _ _ _ _ hgw]; rfl
  have o6 : w.cell? ⟨gw, 6, none⟩ = some (.pointer m) := by rw [cell_of_row w gw _ _ _ _ hgw]; rfl
  have o7 : w.cell? ⟨gw, 7, none⟩ = some (.pointer none) := by rw [cell_of_row w gw _ _ _ _ hgw]; rfl
  have o8 : w.cell? ⟨gw, 8, none⟩ = some (.pointer none) := by rw [cell_of_row w gw _ _ _ _ hgw]; rfl
  have o9 : w.cell? ⟨gw, 9, none⟩ = some (.pointer l) := by rw [cell_of_row w gw _ _ _ _ hgw]; rfl
  have o10 : w.cell? ⟨gw, 10, none⟩ = some (.pointer none) := by rw [cell_of_row w gw _ _ _ _ hgw]; rfl
  have o11 : w.cell? ⟨gw, 11, none⟩ = some (.pointer none) := by rw [cell_of_row w gw _ _ _ _ hgw]; rfl
  have o12 : w.cell? ⟨gw, 12, none⟩ = some (.pointer none) := by rw [cell_of_row w gw _ _ _ _ hgw]; rfl
  have o13 : w.cell? ⟨gw, 13, none⟩ = some (.pointer none) := by rw [cell_of_row w gw _ _ _ _ hgw]; rfl
  clear hb hin hd hp hc hgg hgw
  go_upto_if 172 with fail
  go_step
  go_step
  go_step
  go_step
  clear d0 o0 d1 o1 d2 o2 d3 o3 d4 o4 d5 o5 d6 o6 d7 o7 d8 o8 d9 o9 d10 o10 d11 o11 d12 o12 d13 o13
  go_wp2_with fail
  refine HE.out.mono ?_
  rintro e wx ⟨rfl, hbx⟩
  have v0' := cell_later hbx v0
  have HX := hid hbx
  clear hbx v0 v1
  go_upto_if 188 with fail
  go_step
  go_step
  go_step
  go_step
  exact segZ n rb ro rc gr go gv D M O L W wx hn (HB.out.trans (HX.out.mono HB.out.size)) (HI.out.later HX.out) (HD.out.later HX.out) (cell_later HX.out V0.out)

end Go.Proofs.Ybulkebiw
