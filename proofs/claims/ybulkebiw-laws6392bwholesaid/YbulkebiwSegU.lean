import Derived.Test.YbulkebiwSegV
namespace Go.Proofs.Ybulkebiw
open Go.RowKit
set_option linter.unusedVariables false

theorem mkn {t e : TypeId} {i : TypeInfo} {z : Value} {s b : Nat} (ht : Yba.prog.underlying t = some (.slice e)) (hi : Yba.prog.info? e = some i) (hz : i.zero = some z) (h1 : i.size = s) (h2 : i.bytes = b) (hb : b ≤ 1048576) (n : Nat) (hn : n ≤ 1048576) (w : World) :
    (Instr.makeSlice t (.int .i64 (n : Int)) (.int .i64 (n : Int))).run Yba.prog w = .ok (.slice (some ⟨w.heap.size, 0, none⟩) n n) (w.alloc (.cells (madeCells z.cells (n * s)) e)) := by
  have hm : b * n ≤ 1048576 * 1048576 := Nat.mul_le_mul hb hn
  have h := run_make (P := Yba.prog) w t e i z ht hi hz .i64 .i64 (n : Int) (n : Int) (by omega) (Int.le_refl _) (by rw [h2, ← Int.natCast_mul]; omega) (by omega)
  rw [h, h1]
  simp

theorem mk62 (n : Nat) (hn : n ≤ 1048576) (w : World) : (Instr.makeSlice 62 (.int .i64 (n : Int)) (.int .i64 (n : Int))).run Yba.prog w = .ok (.slice (some ⟨w.heap.size, 0, none⟩) n n) (w.alloc (.cells (List.replicate n (Value.int .i64 0)).toArray 3)) := by
  obtain ⟨i0, hi, hz0, hz1, hz2⟩ := info_parts Yba.info3
  have h := mkn Yba.underlying62 hi hz0 hz1 hz2 (by decide) n hn w
  rw [h, Nat.mul_one, show (Value.int .i64 0).cells = #[Value.int .i64 0] from rfl]
  have : madeCells #[Value.int .i64 0] n = (List.replicate n (Value.int .i64 0)).toArray := by rw [← toList_madeCells_one]
  rw [this]

/-- The parent that the law takes. -/
def Pf (R : Nat → Int) (rn n : Nat) (i : Nat) : Int := if i < rn then (if R i < 0 then -1 else (R i).tmod n) else -1

theorem Pf_lt (R : Nat → Int) (rn n i : Nat) (h : 0 < n) : Pf R rn n i < n := by
  unfold Pf
  split
  · split
    · omega
    · exact Int.tmod_lt_of_pos _ (by omega)
  · omega

/-- The row of parents, its first k laid. -/
def Prow (w : World) (gp n k : Nat) (P : Nat → Int) : Prop := ∃ cur : List Value, w.heap[gp]? = some (.cells cur.toArray 3 (0, 0)) ∧ cur.length = n ∧ ∀ i, i < k → cur[i]? = some (.int .i64 (P i))

theorem Prow.step {w : World} {gp n k : Nat} {P : Nat → Int} (h : Prow w gp n k P) (hk : k < n) : Prow (w.setCell ⟨gp, k, none⟩ (.int .i64 (P k))) gp n (k + 1) P := by
  obtain ⟨cur, h1, h2, h3⟩ := h
  refine ⟨cur.set k (.int .i64 (P k)), by rw [heap_setCell_same _ _ _ _ _ _ h1]; simp, by simpa using h2, fun i hi => ?_⟩
  rcases Nat.lt_or_ge i k with hik | hik
  · rw [List.getElem?_set_ne (by omega)]; exact h3 i hik
  · obtain rfl : i = k := by omega
    simp [h2, hk]

theorem Prow.cell {w : World} {gp n : Nat} {P : Nat → Int} (h : Prow w gp n n P) : ∀ i, i < n → w.cell? ⟨gp, i, none⟩ = some (.int .i64 (P i)) := fun i hi => by
  obtain ⟨cur, h1, h2, h3⟩ := h
  rw [cell_of_row w gp _ _ _ _ h1]
  simpa using h3 i hi

set_option maxHeartbeats 4000000 in
set_option maxRecDepth 100000 in
theorem segU9 {u1 u3 u4 u5 u6 u10 u11 u12 u13 u15 u16 u17 u18 u19 u20 u21 u22 u23 u24 u25 u26 u27 u28 u29 u30 u31 u32 u33 u34 u35 u36 u37 u38 u39 u40 u41 u42 u43 u44 u45 u46 u47 u48 u49 u50 u51 u52 u53 u54 u55 u56 u57 u58 u59 u60 u61 u62 u63 u64 u65 u66 u67 u68 u69 u70 u71 u72 u73 u74 u75 u76 u77 u78 u79 u80 u81 u82 u83 u84 u85 u86 u87 u88 u89 u90 u91 u92 u93 u94 u95 u96 u97 u98 u99 u100 u101 u102 u103 u104 u105 u106 u107 u108 u109 u110 u111 u112 u113 u114 u115 u116 u117 u118 u119 u120 u121 u122 u123 u124 u125 u126 u127 u128 u129 u130 u131 u132 u133 u134 u135 u136 u137 u138 u139 u140 u141 u142 u143 u144 u145 u146 u147 u148 u149 u150 u151 u152 u153 u154 u155 u156 u157 u158 u159 u160 u161 u162 u163 u164 u165 u166 u167 u168 u169 u170 u171 u172 u173 u174 u175 u176 u177 u178 u179 u180 u181 u182 u183 u184 u185 u186 u187 u188 u189 u190 u191 u192 u193 u194 u195 u196 u197 u198 u199 u200 u201 u202 u203 u204 u205 u206 u207 u208 u209 u210 u211 u212 u213 u214 u215 u216 u217 u218 u219 u220 u221 u222 u223 u224 u225 u226 u227 : Value} (iv : Int) (n rb ro rc gr go gp : Nat) (D : Dat) (M O L : Nat → Option Addr) (P : Nat → Int) (W w0 : World) (h0 : 0 < n) (hiv : 0 ≤ iv) (hn : n ≤ 1048576) (hb : Below W.heap.size W w0) (hin : In w0 rb ro n D) (hd : Db w0 gr go n D M O L)
    (hp : ∀ i, i < n → w0.cell? ⟨gp, i, none⟩ = some (.int .i64 (P i))) (hP : ∀ i, i < n → P i < n) (hok : Ok n D) :
    Code.wp Yba.prog (dropSeq 9 (Yba.f4.body.getD .skip)) (bodyPost Yba.prog Yba.f4 (fun e w' => e = .returned (.bool true) ∧ Below W.heap.size W w'))
      ⟨(List.toArray (.slice (some ⟨rb, ro, none⟩) n rc :: u1 :: .int .u64 iv :: u3 :: u4 :: u5 :: u6 :: .int .i64 n :: .slice (some ⟨gr, 0, none⟩) n n :: .slice (some ⟨go, 0, none⟩) n n :: u10 :: u11 :: u12 :: u13 :: .slice (some ⟨gp, 0, none⟩) n n :: u15 :: u16 :: u17 :: u18 :: u19 :: u20 :: u21 :: u22 :: u23 :: u24 :: u25 :: u26 :: u27 :: u28 :: u29 :: u30 :: u31 :: u32 :: u33 :: u34 :: u35 :: u36 :: u37 :: u38 :: u39 :: u40 :: u41 :: u42 :: u43 :: u44 :: u45 :: u46 :: u47 :: u48 :: u49 :: u50 :: u51 :: u52 :: u53 :: u54 :: u55 :: u56 :: u57 :: u58 :: u59 :: u60 :: u61 :: u62 :: u63 :: u64 :: u65 :: u66 :: u67 :: u68 :: u69 :: u70 :: u71 :: u72 :: u73 :: u74 :: u75 :: u76 :: u77 :: u78 :: u79 :: u80 :: u81 :: u82 :: u83 :: u84 :: u85 :: u86 :: u87 :: u88 :: u89 :: u90 :: u91 :: u92 :: u93 :: u94 :: u95 :: u96 :: u97 :: u98 :: u99 :: u100 :: u101 :: u102 :: u103 :: u104 :: u105 :: u106 :: u107 :: u108 :: u109 :: u110 :: u111 :: u112 :: u113 :: u114 :: u115 :: u116 :: u117 :: u118 :: u119 :: u120 :: u121 :: u122 :: u123 :: u124 :: u125 :: u126 :: u127 :: u128 :: u129 :: u130 :: u131 :: u132 :: u133 :: u134 :: u135 :: u136 :: u137 :: u138 :: u139 :: u140 :: u141 :: u142 :: u143 :: u144 :: u145 :: u146 :: u147 :: u148 :: u149 :: u150 :: u151 :: u152 :: u153 :: u154 :: u155 :: u156 :: u157 :: u158 :: u159 :: u160 :: u161 :: u162 :: u163 :: u164 :: u165 :: u166 :: u167 :: u168 :: u169 :: u170 :: u171 :: u172 :: u173 :: u174 :: u175 :: u176 :: u177 :: u178 :: u179 :: u180 :: u181 :: u182 :: u183 :: u184 :: u185 :: u186 :: u187 :: u188 :: u189 :: u190 :: u191 :: u192 :: u193 :: u194 :: u195 :: u196 :: u197 :: u198 :: u199 :: u200 :: u201 :: u202 :: u203 :: u204 :: u205 :: u206 :: u207 :: u208 :: u209 :: u210 :: u211 :: u212 :: u213 :: u214 :: u215 :: u216 :: u217 :: u218 :: u219 :: u220 :: u221 :: u222 :: u223 :: u224 :: u225 :: u226 :: u227 :: [])), []⟩ w0 := by
  conv => arg 2; whnf
  have HN := hid hn
  have HB := hid hb
  have HI := hid hin
  have HD := hid hd
  have HP := hid hp
  have HPP := hid hP
  have HOK := hid hok
  clear hb hin hd hp hP hok
  go_wp2_with fail
  refine (clone_any gp n P w0 h0 HN.out HP.out).mono ?_
  rintro e wx ⟨gc, cc, rfl, hc, hbx⟩
  have HC := hid hc
  have HX := hid hbx
  clear hc hbx
  dsimp only
  iterate 7 go_step
  exact segX10 iv n rb ro rc gr go gp gc cc D M O L P W wx h0 hiv HN.out (HB.out.trans (HX.out.mono HB.out.size)) (HI.out.later HX.out) (HD.out.later HX.out) (fun i hi => cell_later HX.out (HP.out i hi)) HC.out HPP.out HOK.out

set_option maxHeartbeats 4000000 in
set_option maxRecDepth 100000 in
theorem segU7 {u3 u4 u5 u6 u10 u11 u12 u13 u14 u15 u16 u17 u18 u19 u20 u21 u22 u23 u24 u25 u26 u27 u28 u29 u30 u31 u32 u33 u34 u35 u36 u37 u38 u39 u40 u41 u42 u43 u44 u45 u46 u47 u48 u49 u50 u51 u52 u53 u54 u55 u56 u57 u58 u59 u60 u61 u62 u63 u64 u65 u66 u67 u68 u69 u70 u71 u72 u73 u74 u75 u76 u77 u78 u79 u80 u81 u82 u83 u84 u85 u86 u87 u88 u89 u90 u91 u92 u93 u94 u95 u96 u97 u98 u99 u100 u101 u102 u103 u104 u105 u106 u107 u108 u109 u110 u111 u112 u113 u114 u115 u116 u117 u118 u119 u120 u121 u122 u123 u124 u125 u126 u127 u128 u129 u130 u131 u132 u133 u134 u135 u136 u137 u138 u139 u140 u141 u142 u143 u144 u145 u146 u147 u148 u149 u150 u151 u152 u153 u154 u155 u156 u157 u158 u159 u160 u161 u162 u163 u164 u165 u166 u167 u168 u169 u170 u171 u172 u173 u174 u175 u176 u177 u178 u179 u180 u181 u182 u183 u184 u185 u186 u187 u188 u189 u190 u191 u192 u193 u194 u195 u196 u197 u198 u199 u200 u201 u202 u203 u204 u205 u206 u207 u208 u209 u210 u211 u212 u213 u214 u215 u216 u217 u218 u219 u220 u221 u222 u223 u224 u225 u226 u227 : Value} (iv : Int) (ra : Option Addr) (n rb ro rc gr go rn rcp qb qo : Nat) (R : Nat → Int) (D : Dat) (M O L : Nat → Option Addr) (W w0 : World) (h0 : 0 < n) (hiv : 0 ≤ iv) (hn : n ≤ 1048576) (hrn : rn ≤ 1048576) (hb : Below W.heap.size W w0) (hin : In w0 rb ro n D) (hd : Db w0 gr go n D M O L) (hok : Ok n D)
    (hra : 0 < rn → ra = some ⟨qb, qo, none⟩) (hR : ∀ i, i < rn → w0.cell? ⟨qb, qo + i, none⟩ = some (.int .i64 (R i))) (hR2 : ∀ i, i < rn → R i ≤ 9223372036854775807) :
    Code.wp Yba.prog (dropSeq 7 (Yba.f4.body.getD .skip)) (bodyPost Yba.prog Yba.f4 (fun e w' => e = .returned (.bool true) ∧ Below W.heap.size W w'))
      ⟨(List.toArray (.slice (some ⟨rb, ro, none⟩) n rc :: .slice ra rn rcp :: .int .u64 iv :: u3 :: u4 :: u5 :: u6 :: .int .i64 n :: .slice (some ⟨gr, 0, none⟩) n n :: .slice (some ⟨go, 0, none⟩) n n :: u10 :: u11 :: u12 :: u13 :: u14 :: u15 :: u16 :: u17 :: u18 :: u19 :: u20 :: u21 :: u22 :: u23 :: u24 :: u25 :: u26 :: u27 :: u28 :: u29 :: u30 :: u31 :: u32 :: u33 :: u34 :: u35 :: u36 :: u37 :: u38 :: u39 :: u40 :: u41 :: u42 :: u43 :: u44 :: u45 :: u46 :: u47 :: u48 :: u49 :: u50 :: u51 :: u52 :: u53 :: u54 :: u55 :: u56 :: u57 :: u58 :: u59 :: u60 :: u61 :: u62 :: u63 :: u64 :: u65 :: u66 :: u67 :: u68 :: u69 :: u70 :: u71 :: u72 :: u73 :: u74 :: u75 :: u76 :: u77 :: u78 :: u79 :: u80 :: u81 :: u82 :: u83 :: u84 :: u85 :: u86 :: u87 :: u88 :: u89 :: u90 :: u91 :: u92 :: u93 :: u94 :: u95 :: u96 :: u97 :: u98 :: u99 :: u100 :: u101 :: u102 :: u103 :: u104 :: u105 :: u106 :: u107 :: u108 :: u109 :: u110 :: u111 :: u112 :: u113 :: u114 :: u115 :: u116 :: u117 :: u118 :: u119 :: u120 :: u121 :: u122 :: u123 :: u124 :: u125 :: u126 :: u127 :: u128 :: u129 :: u130 :: u131 :: u132 :: u133 :: u134 :: u135 :: u136 :: u137 :: u138 :: u139 :: u140 :: u141 :: u142 :: u143 :: u144 :: u145 :: u146 :: u147 :: u148 :: u149 :: u150 :: u151 :: u152 :: u153 :: u154 :: u155 :: u156 :: u157 :: u158 :: u159 :: u160 :: u161 :: u162 :: u163 :: u164 :: u165 :: u166 :: u167 :: u168 :: u169 :: u170 :: u171 :: u172 :: u173 :: u174 :: u175 :: u176 :: u177 :: u178 :: u179 :: u180 :: u181 :: u182 :: u183 :: u184 :: u185 :: u186 :: u187 :: u188 :: u189 :: u190 :: u191 :: u192 :: u193 :: u194 :: u195 :: u196 :: u197 :: u198 :: u199 :: u200 :: u201 :: u202 :: u203 :: u204 :: u205 :: u206 :: u207 :: u208 :: u209 :: u210 :: u211 :: u212 :: u213 :: u214 :: u215 :: u216 :: u217 :: u218 :: u219 :: u220 :: u221 :: u222 :: u223 :: u224 :: u225 :: u226 :: u227 :: [])), []⟩ w0 := by
  conv => arg 2; whnf
  have HN := hid hn
  have HB := hid hb
  have HI := hid hin
  have HD := hid hd
  have HOK := hid hok
  have HRA := hid hra
  have HR := hid hR
  have HR2 := hid hR2
  have hmk := mk62 n hn w0
  clear hb hin hd hok hra hR hR2
  go_wp2
  have hst : Prow (w0.alloc (.cells (Array.replicate n (Value.int .i64 0)) 3)) w0.heap.size n 0 (Pf R rn n) :=
    ⟨List.replicate n (.int .i64 0), by rw [heap_alloc_new]; exact congrArg (fun x => some (Obj.cells x 3 (0, 0))) (Array.ext' (by simp)), by simp, fun i hi => absurd hi (Nat.not_lt_zero _)⟩
  have HST := hid hst
  clear hst hmk
  go_loopw [15] (fun kv wr => ∃ k : Nat, k ≤ n ∧ kv = .int .i64 k ∧ Prow wr w0.heap.size n k (Pf R rn n) ∧ Below w0.heap.size w0 wr) (fun kv _ => n - (intOf kv).toNat)
  case atStart => exact ⟨0, Nat.zero_le _, rfl, HST.out, (Below.refl _ _).alloc (Nat.le_refl _) _⟩
  case round =>
    clear HST
    obtain ⟨k, hk, rfl, hpr, hbw⟩ := hrel
    by_cases hkn : k < n
    · have HPS := hid (hpr.step hkn)
      have HBS := hid (hbw.setCell (show w0.heap.size ≤ (⟨w0.heap.size, k, none⟩ : Addr).block from Nat.le_refl _) (.int .i64 (Pf R rn n k)))
      obtain ⟨v0, hv0, hf0⟩ : ∃ v, wr.cell? ⟨w0.heap.size, k, none⟩ = some v ∧ wr.frozen? ⟨w0.heap.size, k, none⟩ = false := by
        obtain ⟨cur, h1, h2, _⟩ := hpr
        have hl : k < cur.length := by omega
        exact ⟨cur[k], by rw [cell_of_row wr _ _ _ _ _ h1]; simp [hl], frozen_of_row wr _ _ _ _ h1⟩
      have b1 : (0 : Int) ≤ (k : Int) := by omega
      have b2 : (k : Int) < (n : Int) := by omega
      have bz : ¬ ((n : Int) = 0) := by omega
      have hpf : Pf R rn n k = if k < rn then (if R k < 0 then -1 else (R k).tmod n) else -1 := rfl
      have HBW := hid hbw
      clear hpr hbw
      by_cases hkr : k < rn
      · have hr := cell_later HBW.out (HR.out k hkr)
        have hr2 := HR2.out k hkr
        obtain rfl := HRA.out (by omega)
        have b3 : (k : Int) < (rn : Int) := by omega
        rw [if_pos hkr] at hpf
        by_cases hneg : R k < 0
        · rw [if_pos hneg] at hpf
          rw [hpf] at HPS HBS
          clear hpf
          go_wp2
          exact ⟨⟨k + 1, by omega, by go_num, HPS.out, HBS.out⟩, by simp [intOf]; omega⟩
        · rw [if_neg hneg] at hpf
          have h1 := Int.tmod_lt_of_pos (R k) (show (0 : Int) < (n : Int) by omega)
          have h2 : 0 ≤ (R k).tmod n := Int.tmod_nonneg _ (by omega)
          have hw : IntKind.i64.wrap ((R k).tmod n) = (R k).tmod n := by rw [IntKind.wrap_i64]; omega
          have hw2 : wrap64 ((R k).tmod n) = (R k).tmod n := by unfold wrap64; omega
          rw [hpf, Int.tmod_eq_emod_of_nonneg (by omega)] at HPS HBS
          clear hpf
          go_wp2
          exact ⟨⟨k + 1, by omega, by go_num, HPS.out, HBS.out⟩, by simp [intOf]; omega⟩
      · have b3 : ¬ (k : Int) < (rn : Int) := by omega
        rw [if_neg hkr] at hpf
        rw [hpf] at HPS HBS
        clear hpf
        go_wp2
        exact ⟨⟨k + 1, by omega, by go_num, HPS.out, HBS.out⟩, by simp [intOf]; omega⟩
    · obtain rfl : k = n := by omega
      have b2 : ¬ (k : Int) < (k : Int) := by omega
      have HPR := hid hpr
      have HBW := hid hbw
      clear hpr hbw
      go_upto_if 102 with fail
      iterate 6 go_step
      exact segU9 iv k rb ro rc gr go w0.heap.size D M O L (Pf R rn k) W wr h0 hiv HN.out (HB.out.trans (HBW.out.mono HB.out.size)) (HI.out.later HBW.out) (HD.out.later HBW.out) HPR.out.cell (fun i hi => Pf_lt R rn k i h0) HOK.out

end Go.Proofs.Ybulkebiw
