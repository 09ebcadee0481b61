import Derived.Test.YbulkebiwSegY
namespace Go.Proofs.Ybulkebiw
open Go.RowKit
set_option linter.unusedVariables false

set_option maxHeartbeats 4000000 in
set_option maxRecDepth 100000 in
theorem segX16 {u1 u2 u3 u4 u5 u6 u8 u10 u11 u12 u13 u14 u15 u16 u21 u23 u24 u25 u26 u27 u28 u29 u30 u31 u32 u33 u34 u35 u36 u37 u38 u39 u40 u41 u42 u43 u44 u45 u46 u47 u48 u49 u50 u51 u52 u53 u54 u55 u56 u57 u58 u59 u60 u61 u62 u63 u64 u65 u66 u67 u68 u69 u70 u71 u72 u73 u74 u75 u76 u77 u78 u79 u80 u81 u82 u83 u84 u85 u86 u87 u88 u89 u90 u91 u92 u93 u94 u95 u96 u97 u98 u99 u100 u101 u102 u103 u104 u105 u106 u107 u108 u109 u110 u111 u112 u113 u114 u115 u116 u117 u118 u119 u120 u121 u122 u123 u124 u125 u126 u127 u128 u129 u130 u131 u132 u133 u134 u135 u136 u137 u138 u139 u140 u141 u142 u143 u144 u145 u146 u147 u148 u149 u150 u151 u152 u153 u154 u155 u156 u157 u158 u159 u160 u161 u162 u163 u164 u165 u166 u167 u168 u169 u170 u171 u172 u173 u174 u175 u176 u177 u178 u179 u180 u181 u182 u183 u184 u185 u186 u187 u188 u189 u190 u191 u192 u193 u194 u195 u196 u197 u198 u199 u200 u201 u202 u203 u204 u205 u206 u207 u208 u209 u210 u211 u212 u213 u214 u215 u216 u217 u218 u219 u220 u221 u222 u223 u224 u225 u226 u227 : Value} (n rb ro rc gr go gv gp gc cc gg gw x : Nat) (D : Dat) (M O L : Nat → Option Addr) (P : Nat → Int) (t i p : ByteArray) (X1 X2 : Int) (m l : Option Addr) (W w0 w : World) (hx : x < n) (hn : n ≤ 1048576) (hb : Below W.heap.size W w0) (hin : In w0 rb ro n D) (hd : Db w0 gr go n D M O L) (v0 : w0.cell? ⟨gv, 0, none⟩ = some (.slice (some ⟨gr, 0, none⟩) n n)) (v1 : w0.cell? ⟨gv, 1, none⟩ = some (.slice (some ⟨gp, 0, none⟩) n n))
    (hp : ∀ i, i < n → w0.cell? ⟨gp, i, none⟩ = some (.int .i64 (P i))) (hc : ∀ i, i < n → w0.cell? ⟨gc, i, none⟩ = some (.int .i64 (P i))) (hP : ∀ i, i < n → P i < n)
    (hb0 : Below w0.heap.size w0 w) (hg0 : w0.heap.size ≤ gw) (hne : gg ≠ gw) (hgg : w.heap[gg]? = some (.cells (E14 t i (if 0 ≤ P x then D.ID (P x).toNat else p) X1 X2 m l) 91 (0, 0))) (hgw : w.heap[gw]? = some (.cells (E14 t i p X1 X2 m l) 91 (0, 0))) :
    Code.wp Yba.prog (dropSeq 16 (Yba.f4.body.getD .skip)) (bodyPost Yba.prog Yba.f4 (fun e w' => e = .returned (.bool true) ∧ Below W.heap.size W w'))
      ⟨(List.toArray (.slice (some ⟨rb, ro, none⟩) n rc :: u1 :: u2 :: u3 :: u4 :: u5 :: u6 :: .int .i64 n :: u8 :: .slice (some ⟨go, 0, none⟩) n n :: u10 :: u11 :: u12 :: u13 :: u14 :: u15 :: u16 :: .slice (some ⟨gc, 0, none⟩) n cc :: .int .i64 (x : Nat) :: .pointer (some ⟨gv, 0, none⟩) :: .pointer (some ⟨gg, 0, none⟩) :: u21 :: .pointer (some ⟨gw, 0, none⟩) :: u23 :: u24 :: u25 :: u26 :: u27 :: u28 :: u29 :: u30 :: u31 :: u32 :: u33 :: u34 :: u35 :: u36 :: u37 :: u38 :: u39 :: u40 :: u41 :: u42 :: u43 :: u44 :: u45 :: u46 :: u47 :: u48 :: u49 :: u50 :: u51 :: u52 :: u53 :: u54 :: u55 :: u56 :: u57 :: u58 :: u59 :: u60 :: u61 :: u62 :: u63 :: u64 :: u65 :: u66 :: u67 :: u68 :: u69 :: u70 :: u71 :: u72 :: u73 :: u74 :: u75 :: u76 :: u77 :: u78 :: u79 :: u80 :: u81 :: u82 :: u83 :: u84 :: u85 :: u86 :: u87 :: u88 :: u89 :: u90 :: u91 :: u92 :: u93 :: u94 :: u95 :: u96 :: u97 :: u98 :: u99 :: u100 :: u101 :: u102 :: u103 :: u104 :: u105 :: u106 :: u107 :: u108 :: u109 :: u110 :: u111 :: u112 :: u113 :: u114 :: u115 :: u116 :: u117 :: u118 :: u119 :: u120 :: u121 :: u122 :: u123 :: u124 :: u125 :: u126 :: u127 :: u128 :: u129 :: u130 :: u131 :: u132 :: u133 :: u134 :: u135 :: u136 :: u137 :: u138 :: u139 :: u140 :: u141 :: u142 :: u143 :: u144 :: u145 :: u146 :: u147 :: u148 :: u149 :: u150 :: u151 :: u152 :: u153 :: u154 :: u155 :: u156 :: u157 :: u158 :: u159 :: u160 :: u161 :: u162 :: u163 :: u164 :: u165 :: u166 :: u167 :: u168 :: u169 :: u170 :: u171 :: u172 :: u173 :: u174 :: u175 :: u176 :: u177 :: u178 :: u179 :: u180 :: u181 :: u182 :: u183 :: u184 :: u185 :: u186 :: u187 :: u188 :: u189 :: u190 :: u191 :: u192 :: u193 :: u194 :: u195 :: u196 :: u197 :: u198 :: u199 :: u200 :: u201 :: u202 :: u203 :: u204 :: u205 :: u206 :: u207 :: u208 :: u209 :: u210 :: u211 :: u212 :: u213 :: u214 :: u215 :: u216 :: u217 :: u218 :: u219 :: u220 :: u221 :: u222 :: u223 :: u224 :: u225 :: u226 :: u227 :: [])), []⟩ w := by
  conv => arg 2; whnf
  have HN := hid hn
  have HB := hid hb
  have HI := hid hin
  have HD := hid hd
  have V0 := hid v0
  have V1 := hid v1
  have HP := hid hp
  have HC := hid hc
  have HB0 := hid hb0
  have HPx := hid (hP x hx)
  have cx := cell_later hb0 (hc x hx)
  have b1 : (0 : Int) ≤ (x : Int) := by omega
  have b2 : (x : Int) < (n : Int) := by omega
  clear hn hb hin hd v0 v1 hp hc hP hb0
  generalize P x = pv at *
  by_cases hpos : 0 ≤ pv
  · rw [if_pos hpos] at hgg
    have hpn := HPx.out
    have hip : w.cell? ⟨rb, ro + pv.toNat * 10, none⟩ = some (.string (D.ID pv.toNat)) := HI.out.later HB0.out pv.toNat (by omega) 0 _ rfl
    have e2 : w.cell? ⟨gw, 2, none⟩ = some (.string p) := by rw [cell_of_row w gw _ _ _ _ hgw]; rfl
    have e3 : w.frozen? ⟨gw, 2, none⟩ = false := frozen_of_row w gw _ _ _ hgw
    have hg2 : (w.setCell ⟨gw, 2, none⟩ (.string (D.ID pv.toNat))).heap[gg]? = some (.cells (E14 t i (D.ID pv.toNat) X1 X2 m l) 91 (0, 0)) := (heap_setCell_other _ _ _ _ hne).trans hgg
    have hw2 : (w.setCell ⟨gw, 2, none⟩ (.string (D.ID pv.toNat))).heap[gw]? = some (.cells (E14 t i (D.ID pv.toNat) X1 X2 m l) 91 (0, 0)) := by rw [heap_setCell_same _ _ _ _ _ _ hgw]; simp
    have HG2 := hid hg2
    have HW2 := hid hw2
    have HB1 := hid (HB0.out.setCell (show w0.heap.size ≤ (⟨gw, 2, none⟩ : Addr).block from hg0) (.string (D.ID pv.toNat)))
    clear hgg hgw hg2 hw2
    go_upto_if 163 with fail
    iterate 26 go_step
    exact segY n rb ro rc gr go gv gp gc cc gg gw D M O L P t i _ X1 X2 m l W _ HN.out (HB.out.trans (HB1.out.mono HB.out.size)) (HI.out.later HB1.out) (HD.out.later HB1.out) (cell_later HB1.out V0.out) (cell_later HB1.out V1.out) (fun i hi => cell_later HB1.out (HP.out i hi)) (fun i hi => cell_later HB1.out (HC.out i hi)) HG2.out HW2.out
  · rw [if_neg hpos] at hgg
    have HG2 := hid hgg
    have HW2 := hid hgw
    clear hgg hgw
    go_upto_if 163 with fail
    go_step
    go_step
    go_step
    go_step
    exact segY n rb ro rc gr go gv gp gc cc gg gw D M O L P t i _ X1 X2 m l W _ HN.out (HB.out.trans (HB0.out.mono HB.out.size)) (HI.out.later HB0.out) (HD.out.later HB0.out) (cell_later HB0.out V0.out) (cell_later HB0.out V1.out) (fun i hi => cell_later HB0.out (HP.out i hi)) (fun i hi => cell_later HB0.out (HC.out i hi)) HG2.out HW2.out

end Go.Proofs.Ybulkebiw
