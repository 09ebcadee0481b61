import Derived.Test.YbulkebiwIv
namespace Go.Proofs.Ybulkebiw
open Go.RowKit
set_option linter.unusedVariables false

/-- Inside round k: the record's copy d, the record r under way. -/
structure Hf (w0 wr w : World) (gd g5 k : Nat) (D : Dat) (m o : Option Addr) : Prop where
  same : ∀ b, b < wr.heap.size → w.heap[b]? = wr.heap[b]?
  d : w.heap[gd]? = some (.cells #[.string (D.ID k), .int .i64 (D.AT k), .bool (D.HM k), .string (D.MO k), .bool (D.OT k), .int .u8 (D.TY k), .string (D.OI k), .string (D.OP k), .int .i64 (D.OA k), .bool (D.OL k)] 66 (0, 0))
  r : w.heap[g5]? = some (.cells (R6 D k m o) 76 (0, 0))
  le : wr.heap.size ≤ gd ∧ gd < g5
  below : Below w0.heap.size w0 w

theorem Hf.set4 {w0 wr w : World} {gd g5 k : Nat} {D : Dat} {m o : Option Addr} (h : Hf w0 wr w gd g5 k D m o) (hw : w0.heap.size ≤ wr.heap.size) (m' : Option Addr) : Hf w0 wr (w.setCell ⟨g5, 4, none⟩ (.pointer m')) gd g5 k D m' o :=
  ⟨fun b hb => (heap_setCell_other _ _ _ _ (by have := h.le; simp; omega)).trans (h.same b hb), (heap_setCell_other _ _ _ _ (by have := h.le; simp; omega)).trans h.d, by rw [heap_setCell_same _ _ _ _ _ _ h.r]; simp, h.le, h.below.setCell (by have := h.le; simp; omega) _⟩

theorem Hf.set5 {w0 wr w : World} {gd g5 k : Nat} {D : Dat} {m o : Option Addr} (h : Hf w0 wr w gd g5 k D m o) (hw : w0.heap.size ≤ wr.heap.size) (o' : Option Addr) : Hf w0 wr (w.setCell ⟨g5, 5, none⟩ (.pointer o')) gd g5 k D m o' :=
  ⟨fun b hb => (heap_setCell_other _ _ _ _ (by have := h.le; simp; omega)).trans (h.same b hb), (heap_setCell_other _ _ _ _ (by have := h.le; simp; omega)).trans h.d, by rw [heap_setCell_same _ _ _ _ _ _ h.r]; simp, h.le, h.below.setCell (by have := h.le; simp; omega) _⟩

theorem Hf.setO {w0 wr w : World} {gd g5 k : Nat} {D : Dat} {m o : Option Addr} (h : Hf w0 wr w gd g5 k D m o) (hw : w0.heap.size ≤ wr.heap.size) (b i : Nat) (v : Value) (hb : g5 < b) : Hf w0 wr (w.setCell ⟨b, i, none⟩ v) gd g5 k D m o :=
  ⟨fun c hc => (heap_setCell_other _ _ _ _ (by have := h.le; simp; omega)).trans (h.same c hc), (heap_setCell_other _ _ _ _ (by have := h.le; simp; omega)).trans h.d, (heap_setCell_other _ _ _ _ (by simp; omega)).trans h.r, h.le, h.below.setCell (by have := h.le; simp; omega) _⟩

theorem Hf.later {w0 wr w w' : World} {gd g5 k : Nat} {D : Dat} {m o : Option Addr} (h : Hf w0 wr w gd g5 k D m o) (hb : Below w.heap.size w w') : Hf w0 wr w' gd g5 k D m o :=
  ⟨fun b hbb => (hb.block b (by have := h.le; have := lt_of_block h.d; omega)).trans (h.same b hbb), (hb.block _ (lt_of_block h.d)).trans h.d, (hb.block _ (lt_of_block h.r)).trans h.r, h.le, h.below.trans (hb.mono h.below.size)⟩

/-- Inside round k, behind the other entry. -/
structure Fin (w0 wr w : World) (go g5 n k : Nat) (D : Dat) (m o l : Option Addr) : Prop where
  same : ∀ b, b < wr.heap.size → b ≠ go → w.heap[b]? = wr.heap[b]?
  r : w.heap[g5]? = some (.cells (R6 D k m o) 76 (0, 0))
  orow : ∃ cur' : Array Value, w.heap[go]? = some (.cells cur' 91 (0, 0)) ∧ cur'.size = n * 14 ∧ (∀ j, j < k * 14 → ∀ cur, wr.heap[go]? = some (.cells cur 91 (0, 0)) → cur'[j]? = cur[j]?) ∧ (D.OT k = true → ∀ j v, (Ee D k l)[j]? = some v → cur'[k * 14 + j]? = some v)
  ent : D.OT k = true → ∃ b, o = some ⟨b, 0, none⟩ ∧ w.heap[b]? = some (.cells (Ee D k l) 91 (0, 0)) ∧ g5 < b
  non : D.OT k = false → o = none
  below : Below w0.heap.size w0 w
  le : wr.heap.size ≤ g5

theorem hset76 {w : World} {g k : Nat} {cs : Array Value} {v : Value} (h : w.heap[g]? = some (.cells cs 76 (0, 0))) : (w.setCell ⟨g, k, none⟩ v).heap[g]? = some (.cells (cs.setIfInBounds k v) 76 (0, 0)) := heap_setCell_same w g k cs 76 v h

theorem set6 (w : World) (g : Nat) (v0 v1 v2 v3 v4 v5 z0 z1 z2 z3 z4 z5 : Value) (h : w.heap[g]? = some (.cells #[z0, z1, z2, z3, z4, z5] 76 (0, 0))) :
    (((((((w.setCell ⟨g, 0, none⟩ v0).setCell ⟨g, 1, none⟩ v1).setCell ⟨g, 2, none⟩ v2).setCell ⟨g, 3, none⟩ v3).setCell ⟨g, 4, none⟩ v4).setCell ⟨g, 5, none⟩ v5)).heap[g]? = some (.cells #[v0, v1, v2, v3, v4, v5] 76 (0, 0)) := by
  have e := (hset76 (k := 5) (v := v5) (hset76 (k := 4) (v := v4) (hset76 (k := 3) (v := v3) (hset76 (k := 2) (v := v2) (hset76 (k := 1) (v := v1) (hset76 (k := 0) (v := v0) h))))))
  simpa only [List.setIfInBounds_toArray, List.set_cons_zero, List.set_cons_succ] using e

theorem set6_below (w : World) (g : Nat) (v0 v1 v2 v3 v4 v5 : Value) (B : Nat) (a : World) (hb : Below B a w) (hB : B ≤ g) : Below B a (((((((w.setCell ⟨g, 0, none⟩ v0).setCell ⟨g, 1, none⟩ v1).setCell ⟨g, 2, none⟩ v2).setCell ⟨g, 3, none⟩ v3).setCell ⟨g, 4, none⟩ v4).setCell ⟨g, 5, none⟩ v5)) :=
  ((((((hb.setCell hB v0).setCell hB v1).setCell hB v2).setCell hB v3).setCell hB v4).setCell hB v5)

theorem put6 (w : World) (g q : Nat) (cur : Array Value) (v0 v1 v2 v3 v4 v5 : Value) (hq : q + 6 ≤ cur.size) (h : w.heap[g]? = some (.cells cur 76 (0, 0))) :
    ∃ cur' : Array Value, (((((((w.setCell ⟨g, q, none⟩ v0).setCell ⟨g, q + 1, none⟩ v1).setCell ⟨g, q + 2, none⟩ v2).setCell ⟨g, q + 3, none⟩ v3).setCell ⟨g, q + 4, none⟩ v4).setCell ⟨g, q + 5, none⟩ v5)).heap[g]? = some (.cells cur' 76 (0, 0)) ∧ cur'.size = cur.size ∧ (∀ j, j < q → cur'[j]? = cur[j]?) ∧ ∀ j v, (#[v0, v1, v2, v3, v4, v5] : Array Value)[j]? = some v → cur'[q + j]? = some v := by
  refine ⟨_, (hset76 (k := q + 5) (v := v5) (hset76 (k := q + 4) (v := v4) (hset76 (k := q + 3) (v := v3) (hset76 (k := q + 2) (v := v2) (hset76 (k := q + 1) (v := v1) (hset76 (k := q) (v := v0) h)))))), by simp, fun j hj => ?_, fun j v hv => ?_⟩
  · rw [Array.getElem?_setIfInBounds_ne (by omega)]; rw [Array.getElem?_setIfInBounds_ne (by omega)]; rw [Array.getElem?_setIfInBounds_ne (by omega)]; rw [Array.getElem?_setIfInBounds_ne (by omega)]; rw [Array.getElem?_setIfInBounds_ne (by omega)]; rw [Array.getElem?_setIfInBounds_ne (by omega)]
  · have hj : j < 6 := by
      have := (Array.getElem?_eq_some_iff.1 hv).1
      simpa using this
    have hjj : j = 0 ∨ j = 1 ∨ j = 2 ∨ j = 3 ∨ j = 4 ∨ j = 5 := by omega
    rcases hjj with rfl | rfl | rfl | rfl | rfl | rfl <;> simp at hv <;> subst hv <;> simp [Array.getElem?_setIfInBounds] <;> omega

theorem put6_below (w : World) (g q : Nat) (v0 v1 v2 v3 v4 v5 : Value) (B : Nat) (a : World) (hb : Below B a w) (hB : B ≤ g) : Below B a (((((((w.setCell ⟨g, q, none⟩ v0).setCell ⟨g, q + 1, none⟩ v1).setCell ⟨g, q + 2, none⟩ v2).setCell ⟨g, q + 3, none⟩ v3).setCell ⟨g, q + 4, none⟩ v4).setCell ⟨g, q + 5, none⟩ v5)) :=
  ((((((hb.setCell hB v0).setCell hB v1).setCell hB v2).setCell hB v3).setCell hB v4).setCell hB v5)

theorem put6_other (w : World) (g q : Nat) (v0 v1 v2 v3 v4 v5 : Value) (b : Nat) (hb : b ≠ g) : (((((((w.setCell ⟨g, q, none⟩ v0).setCell ⟨g, q + 1, none⟩ v1).setCell ⟨g, q + 2, none⟩ v2).setCell ⟨g, q + 3, none⟩ v3).setCell ⟨g, q + 4, none⟩ v4).setCell ⟨g, q + 5, none⟩ v5)).heap[b]? = w.heap[b]? := by
  rw [heap_setCell_other _ _ _ _ hb]; rw [heap_setCell_other _ _ _ _ hb]; rw [heap_setCell_other _ _ _ _ hb]; rw [heap_setCell_other _ _ _ _ hb]; rw [heap_setCell_other _ _ _ _ hb]; rw [heap_setCell_other _ _ _ _ hb]

theorem put14 (w : World) (g q : Nat) (cur : Array Value) (v0 v1 v2 v3 v4 v5 v6 v7 v8 v9 v10 v11 v12 v13 : Value) (hq : q + 14 ≤ cur.size) (h : w.heap[g]? = some (.cells cur 91 (0, 0))) :
    ∃ cur' : Array Value, (((((((((((((((w.setCell ⟨g, q, none⟩ v0).setCell ⟨g, q + 1, none⟩ v1).setCell ⟨g, q + 2, none⟩ v2).setCell ⟨g, q + 3, none⟩ v3).setCell ⟨g, q + 4, none⟩ v4).setCell ⟨g, q + 5, none⟩ v5).setCell ⟨g, q + 6, none⟩ v6).setCell ⟨g, q + 7, none⟩ v7).setCell ⟨g, q + 8, none⟩ v8).setCell ⟨g, q + 9, none⟩ v9).setCell ⟨g, q + 10, none⟩ v10).setCell ⟨g, q + 11, none⟩ v11).setCell ⟨g, q + 12, none⟩ v12).setCell ⟨g, q + 13, none⟩ v13)).heap[g]? = some (.cells cur' 91 (0, 0)) ∧ cur'.size = cur.size ∧ (∀ j, j < q → cur'[j]? = cur[j]?) ∧ ∀ j v, (#[v0, v1, v2, v3, v4, v5, v6, v7, v8, v9, v10, v11, v12, v13] : Array Value)[j]? = some v → cur'[q + j]? = some v := by
  refine ⟨_, (hset91 (k := q + 13) (v := v13) (hset91 (k := q + 12) (v := v12) (hset91 (k := q + 11) (v := v11) (hset91 (k := q + 10) (v := v10) (hset91 (k := q + 9) (v := v9) (hset91 (k := q + 8) (v := v8) (hset91 (k := q + 7) (v := v7) (hset91 (k := q + 6) (v := v6) (hset91 (k := q + 5) (v := v5) (hset91 (k := q + 4) (v := v4) (hset91 (k := q + 3) (v := v3) (hset91 (k := q + 2) (v := v2) (hset91 (k := q + 1) (v := v1) (hset91 (k := q) (v := v0) h)))))))))))))), by simp, fun j hj => ?_, fun j v hv => ?_⟩
  · rw [Array.getElem?_setIfInBounds_ne (by omega)]; rw [Array.getElem?_setIfInBounds_ne (by omega)]; rw [Array.getElem?_setIfInBounds_ne (by omega)]; rw [Array.getElem?_setIfInBounds_ne (by omega)]; rw [Array.getElem?_setIfInBounds_ne (by omega)]; rw [Array.getElem?_setIfInBounds_ne (by omega)]; rw [Array.getElem?_setIfInBounds_ne (by omega)]; rw [Array.getElem?_setIfInBounds_ne (by omega)]; rw [Array.getElem?_setIfInBounds_ne (by omega)]; rw [Array.getElem?_setIfInBounds_ne (by omega)]; rw [Array.getElem?_setIfInBounds_ne (by omega)]; rw [Array.getElem?_setIfInBounds_ne (by omega)]; rw [Array.getElem?_setIfInBounds_ne (by omega)]; rw [Array.getElem?_setIfInBounds_ne (by omega)]
  · have hj : j < 14 := by
      have := (Array.getElem?_eq_some_iff.1 hv).1
      simpa using this
    have hjj : j = 0 ∨ j = 1 ∨ j = 2 ∨ j = 3 ∨ j = 4 ∨ j = 5 ∨ j = 6 ∨ j = 7 ∨ j = 8 ∨ j = 9 ∨ j = 10 ∨ j = 11 ∨ j = 12 ∨ j = 13 := by omega
    rcases hjj with rfl | rfl | rfl | rfl | rfl | rfl | rfl | rfl | rfl | rfl | rfl | rfl | rfl | rfl <;> simp at hv <;> subst hv <;> simp [Array.getElem?_setIfInBounds] <;> omega

theorem put14_below (w : World) (g q : Nat) (v0 v1 v2 v3 v4 v5 v6 v7 v8 v9 v10 v11 v12 v13 : Value) (B : Nat) (a : World) (hb : Below B a w) (hB : B ≤ g) : Below B a (((((((((((((((w.setCell ⟨g, q, none⟩ v0).setCell ⟨g, q + 1, none⟩ v1).setCell ⟨g, q + 2, none⟩ v2).setCell ⟨g, q + 3, none⟩ v3).setCell ⟨g, q + 4, none⟩ v4).setCell ⟨g, q + 5, none⟩ v5).setCell ⟨g, q + 6, none⟩ v6).setCell ⟨g, q + 7, none⟩ v7).setCell ⟨g, q + 8, none⟩ v8).setCell ⟨g, q + 9, none⟩ v9).setCell ⟨g, q + 10, none⟩ v10).setCell ⟨g, q + 11, none⟩ v11).setCell ⟨g, q + 12, none⟩ v12).setCell ⟨g, q + 13, none⟩ v13)) :=
  ((((((((((((((hb.setCell hB v0).setCell hB v1).setCell hB v2).setCell hB v3).setCell hB v4).setCell hB v5).setCell hB v6).setCell hB v7).setCell hB v8).setCell hB v9).setCell hB v10).setCell hB v11).setCell hB v12).setCell hB v13)

theorem put14_other (w : World) (g q : Nat) (v0 v1 v2 v3 v4 v5 v6 v7 v8 v9 v10 v11 v12 v13 : Value) (b : Nat) (hb : b ≠ g) : (((((((((((((((w.setCell ⟨g, q, none⟩ v0).setCell ⟨g, q + 1, none⟩ v1).setCell ⟨g, q + 2, none⟩ v2).setCell ⟨g, q + 3, none⟩ v3).setCell ⟨g, q + 4, none⟩ v4).setCell ⟨g, q + 5, none⟩ v5).setCell ⟨g, q + 6, none⟩ v6).setCell ⟨g, q + 7, none⟩ v7).setCell ⟨g, q + 8, none⟩ v8).setCell ⟨g, q + 9, none⟩ v9).setCell ⟨g, q + 10, none⟩ v10).setCell ⟨g, q + 11, none⟩ v11).setCell ⟨g, q + 12, none⟩ v12).setCell ⟨g, q + 13, none⟩ v13)).heap[b]? = w.heap[b]? := by
  rw [heap_setCell_other _ _ _ _ hb]; rw [heap_setCell_other _ _ _ _ hb]; rw [heap_setCell_other _ _ _ _ hb]; rw [heap_setCell_other _ _ _ _ hb]; rw [heap_setCell_other _ _ _ _ hb]; rw [heap_setCell_other _ _ _ _ hb]; rw [heap_setCell_other _ _ _ _ hb]; rw [heap_setCell_other _ _ _ _ hb]; rw [heap_setCell_other _ _ _ _ hb]; rw [heap_setCell_other _ _ _ _ hb]; rw [heap_setCell_other _ _ _ _ hb]; rw [heap_setCell_other _ _ _ _ hb]; rw [heap_setCell_other _ _ _ _ hb]; rw [heap_setCell_other _ _ _ _ hb]

theorem mkz {t e s : Nat} (ht : Yba.prog.underlying t = some (.slice e)) (hi : (Yba.prog.info? e).map (fun i => (i.zero.isSome, i.size, decide (i.bytes ≤ 1048576))) = some (true, s, true)) (n : Nat) (hn : n ≤ 1048576) :
    ∃ Z : Array Value, Z.size = n * s ∧ ∀ w : World, (Instr.makeSlice t (.int .i64 (n : Int)) (.int .i64 (n : Int))).run Yba.prog w = .ok (.slice (some ⟨w.heap.size, 0, none⟩) n n) (w.alloc (.cells Z e)) := by
  obtain ⟨i, h1, h2⟩ := Option.map_eq_some_iff.1 hi
  simp only [Prod.mk.injEq, decide_eq_true_eq] at h2
  obtain ⟨h3, h4, h5⟩ := h2
  obtain ⟨z, hz⟩ := Option.isSome_iff_exists.1 h3
  exact ⟨madeCells z.cells (n * s), size_madeCells _ _, fun w => mkn ht h1 hz h4 rfl h5 n hn w⟩

set_option maxHeartbeats 4000000 in
set_option maxRecDepth 100000 in
theorem segT {u3 u4 u5 u6 u8 u9 u10 u11 u12 u13 u14 u15 u16 u17 u18 u19 u20 u21 u22 u23 u24 u25 u26 u27 u28 u29 u30 u31 u32 u33 u34 u35 u36 u37 u38 u39 u40 u41 u42 u43 u44 u45 u46 u47 u48 u49 u50 u51 u52 u53 u54 u55 u56 u57 u58 u59 u60 u61 u62 u63 u64 u65 u66 u67 u68 u69 u70 u71 u72 u73 u74 u75 u76 u77 u78 u79 u80 u81 u82 u83 u84 u85 u86 u87 u88 u89 u90 u91 u92 u93 u94 u95 u96 u97 u98 u99 u100 u101 u102 u103 u104 u105 u106 u107 u108 u109 u110 u111 u112 u113 u114 u115 u116 u117 u118 u119 u120 u121 u122 u123 u124 u125 u126 u127 u128 u129 u130 u131 u132 u133 u134 u135 u136 u137 u138 u139 u140 u141 u142 u143 u144 u145 u146 u147 u148 u149 u150 u151 u152 u153 u154 u155 u156 u157 u158 u159 u160 u161 u162 u163 u164 u165 u166 u167 u168 u169 u170 u171 u172 u173 u174 u175 u176 u177 u178 u179 u180 u181 u182 u183 u184 u185 u186 u187 u188 u189 u190 u191 u192 u193 u194 u195 u196 u197 u198 u199 u200 u201 u202 u203 u204 u205 u206 u207 u208 u209 u210 u211 u212 u213 u214 u215 u216 u217 u218 u219 u220 u221 u222 u223 u224 u225 u226 u227 : Value} (iv : Int) (ra : Option Addr) (n rb ro rc rn rcp qb qo : Nat) (R : Nat → Int) (D : Dat) (w0 : World) (h0 : 0 < n) (hiv : 0 ≤ iv) (hn : n ≤ 1048576) (hrn : rn ≤ 1048576) (hin : In w0 rb ro n D) (hok : Ok n D)
    (hra : 0 < rn → ra = some ⟨qb, qo, none⟩) (hR : ∀ i, i < rn → w0.cell? ⟨qb, qo + i, none⟩ = some (.int .i64 (R i))) (hR2 : ∀ i, i < rn → R i ≤ 9223372036854775807) :
    Code.wp Yba.prog (dropSeq 4 (Yba.f4.body.getD .skip)) (bodyPost Yba.prog Yba.f4 (fun e w' => e = .returned (.bool true) ∧ Below w0.heap.size w0 w'))
      ⟨(List.toArray (.slice (some ⟨rb, ro, none⟩) n rc :: .slice ra rn rcp :: .int .u64 iv :: u3 :: u4 :: u5 :: u6 :: .int .i64 n :: u8 :: u9 :: u10 :: u11 :: u12 :: u13 :: u14 :: u15 :: u16 :: u17 :: u18 :: u19 :: u20 :: u21 :: u22 :: u23 :: u24 :: u25 :: u26 :: u27 :: u28 :: u29 :: u30 :: u31 :: u32 :: u33 :: u34 :: u35 :: u36 :: u37 :: u38 :: u39 :: u40 :: u41 :: u42 :: u43 :: u44 :: u45 :: u46 :: u47 :: u48 :: u49 :: u50 :: u51 :: u52 :: u53 :: u54 :: u55 :: u56 :: u57 :: u58 :: u59 :: u60 :: u61 :: u62 :: u63 :: u64 :: u65 :: u66 :: u67 :: u68 :: u69 :: u70 :: u71 :: u72 :: u73 :: u74 :: u75 :: u76 :: u77 :: u78 :: u79 :: u80 :: u81 :: u82 :: u83 :: u84 :: u85 :: u86 :: u87 :: u88 :: u89 :: u90 :: u91 :: u92 :: u93 :: u94 :: u95 :: u96 :: u97 :: u98 :: u99 :: u100 :: u101 :: u102 :: u103 :: u104 :: u105 :: u106 :: u107 :: u108 :: u109 :: u110 :: u111 :: u112 :: u113 :: u114 :: u115 :: u116 :: u117 :: u118 :: u119 :: u120 :: u121 :: u122 :: u123 :: u124 :: u125 :: u126 :: u127 :: u128 :: u129 :: u130 :: u131 :: u132 :: u133 :: u134 :: u135 :: u136 :: u137 :: u138 :: u139 :: u140 :: u141 :: u142 :: u143 :: u144 :: u145 :: u146 :: u147 :: u148 :: u149 :: u150 :: u151 :: u152 :: u153 :: u154 :: u155 :: u156 :: u157 :: u158 :: u159 :: u160 :: u161 :: u162 :: u163 :: u164 :: u165 :: u166 :: u167 :: u168 :: u169 :: u170 :: u171 :: u172 :: u173 :: u174 :: u175 :: u176 :: u177 :: u178 :: u179 :: u180 :: u181 :: u182 :: u183 :: u184 :: u185 :: u186 :: u187 :: u188 :: u189 :: u190 :: u191 :: u192 :: u193 :: u194 :: u195 :: u196 :: u197 :: u198 :: u199 :: u200 :: u201 :: u202 :: u203 :: u204 :: u205 :: u206 :: u207 :: u208 :: u209 :: u210 :: u211 :: u212 :: u213 :: u214 :: u215 :: u216 :: u217 :: u218 :: u219 :: u220 :: u221 :: u222 :: u223 :: u224 :: u225 :: u226 :: u227 :: [])), []⟩ w0 := by
  conv => arg 2; whnf
  have HN := hid hn
  have HI := hid hin
  have HOK := hid hok
  have HRA := hid hra
  have HR := hid hR
  have HR2 := hid hR2
  obtain ⟨Z1, hZ1, hm1⟩ := mkz (s := 6) Yba.underlying63 (by kernel_rfl) n hn
  obtain ⟨Z2, hZ2, hm2⟩ := mkz (s := 14) Yba.underlying64 (by kernel_rfl) n hn
  clear hin hok hra hR hR2
  go_wp2
  have hst : Iv w0 ((w0.alloc (.cells Z1 76)).alloc (.cells Z2 91)) w0.heap.size (w0.heap.size + 1) n 0 D (fun _ => none) (fun _ => none) (fun _ => none) :=
    ⟨⟨Z1, by rw [Below.heap_alloc _ _ _ (by simp)]; exact heap_alloc_new _ _, hZ1⟩, ⟨Z2, by have := heap_alloc_new (w0.alloc (.cells Z1 76)) (.cells Z2 91); simpa using this, hZ2⟩,
      ⟨fun i hi => absurd hi (Nat.not_lt_zero _), fun i hi => absurd hi (Nat.not_lt_zero _), fun i hi => absurd hi (Nat.not_lt_zero _), fun i hi => absurd hi (Nat.not_lt_zero _)⟩, fun i hi => absurd hi (Nat.not_lt_zero _), ((Below.refl _ _).alloc (Nat.le_refl _) _).alloc (by simp) _⟩
  have HST := hid hst
  clear hst hm1 hm2
  go_loopw [10] (fun kv wr => ∃ (k : Nat) (M O L : Nat → Option Addr), k ≤ n ∧ kv = .int .i64 k ∧ Iv w0 wr w0.heap.size (w0.heap.size + 1) n k D M O L) (fun kv _ => n - (intOf kv).toNat)
  case atStart => exact ⟨0, _, _, _, Nat.zero_le _, rfl, HST.out⟩
  case round =>
    clear HST hZ1 hZ2
    obtain ⟨k, M, O, L, hk, rfl, hiv'⟩ := hrel
    have HIV := hid hiv'
    by_cases hkn : k < n
    · have hinr := HI.out.later hiv'.below
      have i0 : wr.cell? ⟨rb, ro + k * 10, none⟩ = some (.string (D.ID k)) := hinr k hkn 0 _ rfl
      have i1 : wr.cell? ⟨rb, ro + k * 10 + 1, none⟩ = some (.int .i64 (D.AT k)) := hinr k hkn 1 _ rfl
      have i2 : wr.cell? ⟨rb, ro + k * 10 + 2, none⟩ = some (.bool (D.HM k)) := hinr k hkn 2 _ rfl
      have i3 : wr.cell? ⟨rb, ro + k * 10 + 3, none⟩ = some (.string (D.MO k)) := hinr k hkn 3 _ rfl
      have i4 : wr.cell? ⟨rb, ro + k * 10 + 4, none⟩ = some (.bool (D.OT k)) := hinr k hkn 4 _ rfl
      have i5 : wr.cell? ⟨rb, ro + k * 10 + 5, none⟩ = some (.int .u8 (D.TY k)) := hinr k hkn 5 _ rfl
      have i6 : wr.cell? ⟨rb, ro + k * 10 + 6, none⟩ = some (.string (D.OI k)) := hinr k hkn 6 _ rfl
      have i7 : wr.cell? ⟨rb, ro + k * 10 + 7, none⟩ = some (.string (D.OP k)) := hinr k hkn 7 _ rfl
      have i8 : wr.cell? ⟨rb, ro + k * 10 + 8, none⟩ = some (.int .i64 (D.OA k)) := hinr k hkn 8 _ rfl
      have i9 : wr.cell? ⟨rb, ro + k * 10 + 9, none⟩ = some (.bool (D.OL k)) := hinr k hkn 9 _ rfl
      have b1 : (0 : Int) ≤ (k : Int) := by omega
      have b2 : (k : Int) < (n : Int) := by omega
      have lrb : rb < wr.heap.size := World.block_lt_of_cell? _ _ i0
      have ok := HOK.out k hkn
      clear hinr hiv'
      go_upto_region 12 with fail
      have hd0 : (wr.alloc (.cells #[.string (D.ID k), .int .i64 (D.AT k), .bool (D.HM k), .string (D.MO k), .bool (D.OT k), .int .u8 (D.TY k), .string (D.OI k), .string (D.OP k), .int .i64 (D.OA k), .bool (D.OL k)] 66)).heap[wr.heap.size]? = some (.cells #[.string (D.ID k), .int .i64 (D.AT k), .bool (D.HM k), .string (D.MO k), .bool (D.OT k), .int .u8 (D.TY k), .string (D.OI k), .string (D.OP k), .int .i64 (D.OA k), .bool (D.OL k)] 66 (0, 0)) := heap_alloc_new _ _
      have hb0 : Below wr.heap.size wr (wr.alloc (.cells #[.string (D.ID k), .int .i64 (D.AT k), .bool (D.HM k), .string (D.MO k), .bool (D.OT k), .int .u8 (D.TY k), .string (D.OI k), .string (D.OP k), .int .i64 (D.OA k), .bool (D.OL k)] 66)) := (Below.refl _ _).alloc (Nat.le_refl _) _
      have hl0 : (wr.alloc (.cells #[.string (D.ID k), .int .i64 (D.AT k), .bool (D.HM k), .string (D.MO k), .bool (D.OT k), .int .u8 (D.TY k), .string (D.OI k), .string (D.OP k), .int .i64 (D.OA k), .bool (D.OL k)] 66)).heap.size = wr.heap.size + 1 := by simp
      generalize (wr.alloc (.cells #[.string (D.ID k), .int .i64 (D.AT k), .bool (D.HM k), .string (D.MO k), .bool (D.OT k), .int .u8 (D.TY k), .string (D.OI k), .string (D.OP k), .int .i64 (D.OA k), .bool (D.OL k)] 66)) = w1 at *
      have e0 : w1.cell? ⟨wr.heap.size, 0, none⟩ = some (.string (D.ID k)) := by rw [cell_of_row w1 _ _ _ _ _ hd0]; rfl
      have e1 : w1.cell? ⟨wr.heap.size, 1, none⟩ = some (.int .i64 (D.AT k)) := by rw [cell_of_row w1 _ _ _ _ _ hd0]; rfl
      have HD0 := hid hd0
      have HB0 := hid hb0
      have ld : wr.heap.size < w1.heap.size := by omega
      have HL0 := hid hl0
      clear hd0 hb0 hl0 i0 i1 i2 i3 i4 i5 i6 i7 i8 i9
      have ea0 : (w1.alloc (.cells #[.string ⟨#[]⟩, .int .u64 0, .int .i64 0, .pointer none, .pointer none, .pointer none] 76)).drew.cell? ⟨wr.heap.size, 0, none⟩ = some (.string (D.ID k)) := cell_later ((Below.refl _ _).alloc (Nat.le_refl _) _).drew e0
      have ea1 : (w1.alloc (.cells #[.string ⟨#[]⟩, .int .u64 0, .int .i64 0, .pointer none, .pointer none, .pointer none] 76)).drew.cell? ⟨wr.heap.size, 1, none⟩ = some (.int .i64 (D.AT k)) := cell_later ((Below.refl _ _).alloc (Nat.le_refl _) _).drew e1
      have hwA : (w1.alloc (.cells #[.string ⟨#[]⟩, .int .u64 0, .int .i64 0, .pointer none, .pointer none, .pointer none] 76)).drew.heap[w1.heap.size]? = some (.cells #[.string ⟨#[]⟩, .int .u64 0, .int .i64 0, .pointer none, .pointer none, .pointer none] 76 (0, 0)) := heap_alloc_new _ _
      have lw1 : w1.heap.size < (w1.alloc (.cells #[.string ⟨#[]⟩, .int .u64 0, .int .i64 0, .pointer none, .pointer none, .pointer none] 76)).drew.heap.size := by simp
      have lne : w1.heap.size ≠ wr.heap.size := by omega
      have lne2 : wr.heap.size ≠ w1.heap.size := by omega
      go_cut [12] from 41 to 97 (fun p wc => ∃ g5 : Nat, p = .pointer (some ⟨g5, 0, none⟩) ∧ Hf w0 wr wc wr.heap.size g5 k D none none)
      case first =>
        go_region_held3 (fun w' => w'.cell? ⟨wr.heap.size, 0, none⟩ = some (.string (D.ID k)) ∧ w'.cell? ⟨wr.heap.size, 1, none⟩ = some (.int .i64 (D.AT k))) (go_keep)
          (first
            | (go_at_call 6; refine (add_any (D.AT k) w1.drew ok.1.1 ok.1.2).mono ?_; rintro e w4 ⟨rfl, hb4⟩; have f0 : w4.cell? ⟨wr.heap.size, 0, none⟩ = some (.string (D.ID k)) := cell_later hb4 e0; have f1 : w4.cell? ⟨wr.heap.size, 1, none⟩ = some (.int .i64 (D.AT k)) := cell_later hb4 e1; have l4 : wr.heap.size < w4.heap.size := World.block_lt_of_cell? _ _ f0)
            | (go_at_call 6; refine (add_any (D.AT k) _ ok.1.1 ok.1.2).mono ?_; rintro e w4 ⟨rfl, hb4⟩; have f0 : w4.cell? ⟨wr.heap.size, 0, none⟩ = some (.string (D.ID k)) := cell_later hb4 ea0; have f1 : w4.cell? ⟨wr.heap.size, 1, none⟩ = some (.int .i64 (D.AT k)) := cell_later hb4 ea1; have hw4 : w4.heap[w1.heap.size]? = some (.cells #[.string ⟨#[]⟩, .int .u64 0, .int .i64 0, .pointer none, .pointer none, .pointer none] 76 (0, 0)) := (hb4.block _ lw1).trans hwA; have z0 : w4.cell? ⟨w1.heap.size, 0, none⟩ = some (.string ⟨#[]⟩) := (cell_of_row w4 _ _ _ _ _ hw4).trans rfl; have y0 : w4.frozen? ⟨w1.heap.size, 0, none⟩ = false := frozen_of_row w4 _ _ _ _ hw4; have z1 : w4.cell? ⟨w1.heap.size, 1, none⟩ = some (.int .u64 0) := (cell_of_row w4 _ _ _ _ _ hw4).trans rfl; have y1 : w4.frozen? ⟨w1.heap.size, 1, none⟩ = false := frozen_of_row w4 _ _ _ _ hw4; have z2 : w4.cell? ⟨w1.heap.size, 2, none⟩ = some (.int .i64 0) := (cell_of_row w4 _ _ _ _ _ hw4).trans rfl; have y2 : w4.frozen? ⟨w1.heap.size, 2, none⟩ = false := frozen_of_row w4 _ _ _ _ hw4; have z3 : w4.cell? ⟨w1.heap.size, 3, none⟩ = some (.pointer none) := (cell_of_row w4 _ _ _ _ _ hw4).trans rfl; have y3 : w4.frozen? ⟨w1.heap.size, 3, none⟩ = false := frozen_of_row w4 _ _ _ _ hw4; have z4 : w4.cell? ⟨w1.heap.size, 4, none⟩ = some (.pointer none) := (cell_of_row w4 _ _ _ _ _ hw4).trans rfl; have y4 : w4.frozen? ⟨w1.heap.size, 4, none⟩ = false := frozen_of_row w4 _ _ _ _ hw4; have z5 : w4.cell? ⟨w1.heap.size, 5, none⟩ = some (.pointer none) := (cell_of_row w4 _ _ _ _ _ hw4).trans rfl; have y5 : w4.frozen? ⟨w1.heap.size, 5, none⟩ = false := frozen_of_row w4 _ _ _ _ hw4; have HW4 := hid hw4; clear hw4))
        · go_wp2
          go_meet
          case rel =>
            have hs4 : w1.heap.size ≤ w4.heap.size := hb4.size
            have hb5 : Below w1.heap.size w1 w4 := ((Below.refl _ _).drew).trans hb4
            have h1 := HIV.out.below
            have h2 := h1.size
            refine ⟨_, rfl, fun b hb => ?_, ?_, heap_alloc_new _ _, ⟨Nat.le_refl _, l4⟩, ?_⟩
            · rw [Below.heap_alloc _ _ _ (by omega), hb5.block b (by omega)]
              exact HB0.out.block b hb
            · rw [Below.heap_alloc _ _ _ (by omega), hb5.block _ (by omega)]
              exact HD0.out
            · exact (h1.trans ((HB0.out.trans (hb5.mono (by omega))).mono h2)).alloc (by omega) _
        · go_wp2
          go_meet
          case rel =>
            have hb5 : Below w1.heap.size w1 w4 := (((Below.refl _ _).alloc (Nat.le_refl _) _).drew).trans (hb4.mono (by simp))
            have h1 := HIV.out.below
            have h2 := h1.size
            have b6 := set6_below w4 w1.heap.size (.string (D.ID k)) (.int .u64 (tW (D.AT k))) (.int .i64 (tX (D.AT k))) (.pointer none) (.pointer none) (.pointer none) w1.heap.size w1 hb5 (Nat.le_refl _)
            exact ⟨_, rfl, fun b hb => (b6.block b (by omega)).trans (HB0.out.block b hb), (b6.block _ ld).trans HD0.out, set6 w4 w1.heap.size _ _ _ _ _ _ _ _ _ _ _ _ HW4.out, ⟨Nat.le_refl _, ld⟩, h1.trans ((HB0.out.trans (b6.mono (by omega))).mono h2)⟩
      case rest =>
        obtain ⟨g5, rfl, hf⟩ := hcut
        rename World => wc
        go_step
        have c2 : wc.cell? ⟨wr.heap.size, 2, none⟩ = some (.bool (D.HM k)) := by rw [cell_of_row wc _ _ _ _ _ hf.d]; rfl
        have c3 : wc.cell? ⟨wr.heap.size, 3, none⟩ = some (.string (D.MO k)) := by rw [cell_of_row wc _ _ _ _ _ hf.d]; rfl
        have q4 : wc.cell? ⟨g5, 4, none⟩ = some (.pointer none) := by rw [cell_of_row wc _ _ _ _ _ hf.r]; rfl
        have q4f : wc.frozen? ⟨g5, 4, none⟩ = false := frozen_of_row wc _ _ _ _ hf.r
        have lg5 := lt_of_block hf.r
        have lgd := lt_of_block hf.d
        have HF := hid hf
        clear hf e0 e1 ea0 ea1 hwA lw1
        go_upto_if 58 with fail
        go_cut [] from 41 to 97 (fun wd => ∃ m, Hf w0 wr wd wr.heap.size g5 k D m none)
        case first =>
          cases hm : D.HM k
          · go_wp2
            go_meet
            case rel => exact ⟨none, HF.out⟩
          · go_wp2
            go_meet
            case rel =>
              have hw0 := HIV.out.below.size
              exact ⟨_, (HF.out.set4 hw0 _).later ((Below.refl _ _).alloc (Nat.le_refl _) _)⟩
        case rest =>
          obtain ⟨m, hf⟩ := hcut
          rename World => wd
          go_step
          have c4 : wd.cell? ⟨wr.heap.size, 4, none⟩ = some (.bool (D.OT k)) := by rw [cell_of_row wd _ _ _ _ _ hf.d]; rfl
          have c5 : wd.cell? ⟨wr.heap.size, 5, none⟩ = some (.int .u8 (D.TY k)) := by rw [cell_of_row wd _ _ _ _ _ hf.d]; rfl
          have c6 : wd.cell? ⟨wr.heap.size, 6, none⟩ = some (.string (D.OI k)) := by rw [cell_of_row wd _ _ _ _ _ hf.d]; rfl
          have c7 : wd.cell? ⟨wr.heap.size, 7, none⟩ = some (.string (D.OP k)) := by rw [cell_of_row wd _ _ _ _ _ hf.d]; rfl
          have c8 : wd.cell? ⟨wr.heap.size, 8, none⟩ = some (.int .i64 (D.OA k)) := by rw [cell_of_row wd _ _ _ _ _ hf.d]; rfl
          have c9 : wd.cell? ⟨wr.heap.size, 9, none⟩ = some (.bool (D.OL k)) := by rw [cell_of_row wd _ _ _ _ _ hf.d]; rfl
          clear c2 c3 q4 q4f HF lg5 lgd
          have lg5 := lt_of_block hf.r
          have lgd := lt_of_block hf.d
          have HF := hid hf
          clear hf
          go_upto_if 65 with fail
          go_cut [] from 41 to 97 (fun we => ∃ o l, Fin w0 wr we (w0.heap.size + 1) g5 n k D m o l)
          case first =>
            cases hot : D.OT k
            · go_wp2
              go_meet
              case rel =>
                obtain ⟨cur, o1, o2⟩ := HIV.out.orow
                have lgo := lt_of_block o1
                have hw0 := HIV.out.below.size
                exact ⟨none, none, fun b hb _ => HF.out.same b hb, HF.out.r, ⟨cur, (HF.out.same _ lgo).trans o1, o2, fun j hj cur' hc => (by rw [o1] at hc; cases hc; rfl), fun h => (by rw [hot] at h; cases h)⟩, fun h => (by rw [hot] at h; cases h), fun _ => rfl, HF.out.below, (by have := HF.out.le; omega)⟩
            · go_upto_region 16 with fail
              go_cut [13] from 41 to 97 (fun p wf => ∃ g7 : Nat, p = .pointer (some ⟨g7, 0, none⟩) ∧ Hf w0 wr wf wr.heap.size g5 k D m none ∧ wf.heap[g7]? = some (.cells (Ee D k none) 91 (0, 0)) ∧ g5 < g7)
              case first =>
                go_region_held3 (fun w' => w'.cell? ⟨wr.heap.size, 5, none⟩ = some (.int .u8 (D.TY k)) ∧ w'.cell? ⟨wr.heap.size, 6, none⟩ = some (.string (D.OI k)) ∧ w'.cell? ⟨wr.heap.size, 7, none⟩ = some (.string (D.OP k)) ∧ w'.cell? ⟨wr.heap.size, 8, none⟩ = some (.int .i64 (D.OA k))) (go_keep)
                  (first
                    | (go_at_call 7; refine (ty_any (D.TY k) _ ok.2.2).mono ?_; rintro e wt ⟨rfl, rfl⟩)
                    | (go_at_call 6; refine (add_any (D.OA k) _ ok.2.1.1 ok.2.1.2).mono ?_; rintro e w4 ⟨rfl, hb4⟩; have f5 : w4.cell? ⟨wr.heap.size, 5, none⟩ = some (.int .u8 (D.TY k)) := cell_later hb4 c5; have f6 : w4.cell? ⟨wr.heap.size, 6, none⟩ = some (.string (D.OI k)) := cell_later hb4 c6; have f7 : w4.cell? ⟨wr.heap.size, 7, none⟩ = some (.string (D.OP k)) := cell_later hb4 c7; have f8 : w4.cell? ⟨wr.heap.size, 8, none⟩ = some (.int .i64 (D.OA k)) := cell_later hb4 c8; have l4 : wr.heap.size < w4.heap.size := World.block_lt_of_cell? _ _ f5))
                all_goals
                  go_wp2
                  go_meet
                  case rel =>
                    have hb5 : Below wd.heap.size wd w4 := ((Below.refl _ _).drew).trans hb4
                    have hs4 := hb5.size
                    exact ⟨_, rfl, HF.out.later (hb5.alloc hs4 _), heap_alloc_new _ _, by omega⟩
              case rest =>
                obtain ⟨g7, rfl, hf, h7, hlt7⟩ := hcut
                rename World => wf
                go_step
                have c9 : wf.cell? ⟨wr.heap.size, 9, none⟩ = some (.bool (D.OL k)) := by rw [cell_of_row wf _ _ _ _ _ hf.d]; rfl
                have q9 : wf.cell? ⟨g7, 9, none⟩ = some (.pointer none) := by rw [cell_of_row wf _ _ _ _ _ h7]; rfl
                have q9f : wf.frozen? ⟨g7, 9, none⟩ = false := frozen_of_row wf _ _ _ _ h7
                have lg7 := lt_of_block h7
                have HF := hid hf
                have H7 := hid h7
                clear hf h7 c4 c5 c6 c7 c8
                go_upto_if 80 with fail
                go_cut [] from 41 to 97 (fun wg => ∃ l, Hf w0 wr wg wr.heap.size g5 k D m none ∧ wg.heap[g7]? = some (.cells (Ee D k l) 91 (0, 0)))
                case first =>
                  cases hol : D.OL k
                  · go_wp2
                    go_meet
                    case rel => exact ⟨none, HF.out, H7.out⟩
                  · go_wp2
                    go_meet
                    case rel =>
                      have hw0 := HIV.out.below.size
                      refine ⟨some ⟨wf.heap.size, 0, none⟩, (HF.out.setO hw0 g7 9 _ hlt7).later ((Below.refl _ _).alloc (Nat.le_refl _) _), ?_⟩
                      rw [Below.heap_alloc _ _ _ (by simp; exact lg7), heap_setCell_same _ _ _ _ _ _ H7.out]
                      simp
                case rest =>
                obtain ⟨l, hf, h7⟩ := hcut
                rename World => wg
                go_step
                obtain ⟨cur, o1, o2⟩ := HIV.out.orow
                have hle := hf.le
                have hwz := HIV.out.below.size
                have hgo := lt_of_block o1
                have hrw : wg.heap[w0.heap.size + 1]? = some (.cells cur 91 (0, 0)) := (hf.same _ (lt_of_block o1)).trans o1
                have hq : k * 14 + 14 ≤ cur.size := by omega
                have q5 : wg.cell? ⟨g5, 5, none⟩ = some (.pointer none) := by rw [cell_of_row wg _ _ _ _ _ hf.r]; rfl
                have q5f : wg.frozen? ⟨g5, 5, none⟩ = false := frozen_of_row wg _ _ _ _ hf.r
                have ge0 : wg.cell? ⟨g7, 0, none⟩ = some (.string (tyOf (D.TY k))) := by rw [cell_of_row wg _ _ _ _ _ h7]; rfl
                have ge1 : wg.cell? ⟨g7, 1, none⟩ = some (.string (D.OI k)) := by rw [cell_of_row wg _ _ _ _ _ h7]; rfl
                have ge2 : wg.cell? ⟨g7, 2, none⟩ = some (.string (D.OP k)) := by rw [cell_of_row wg _ _ _ _ _ h7]; rfl
                have ge3 : wg.cell? ⟨g7, 3, none⟩ = some (.int .u64 (tW (D.OA k))) := by rw [cell_of_row wg _ _ _ _ _ h7]; rfl
                have ge4 : wg.cell? ⟨g7, 4, none⟩ = some (.int .i64 (tX (D.OA k))) := by rw [cell_of_row wg _ _ _ _ _ h7]; rfl
                have ge5 : wg.cell? ⟨g7, 5, none⟩ = some (.pointer none) := by rw [cell_of_row wg _ _ _ _ _ h7]; rfl
                have ge6 : wg.cell? ⟨g7, 6, none⟩ = some (.pointer none) := by rw [cell_of_row wg _ _ _ _ _ h7]; rfl
                have ge7 : wg.cell? ⟨g7, 7, none⟩ = some (.pointer none) := by rw [cell_of_row wg _ _ _ _ _ h7]; rfl
                have ge8 : wg.cell? ⟨g7, 8, none⟩ = some (.pointer none) := by rw [cell_of_row wg _ _ _ _ _ h7]; rfl
                have ge9 : wg.cell? ⟨g7, 9, none⟩ = some (.pointer l) := by rw [cell_of_row wg _ _ _ _ _ h7]; rfl
                have ge10 : wg.cell? ⟨g7, 10, none⟩ = some (.pointer none) := by rw [cell_of_row wg _ _ _ _ _ h7]; rfl
                have ge11 : wg.cell? ⟨g7, 11, none⟩ = some (.pointer none) := by rw [cell_of_row wg _ _ _ _ _ h7]; rfl
                have ge12 : wg.cell? ⟨g7, 12, none⟩ = some (.pointer none) := by rw [cell_of_row wg _ _ _ _ _ h7]; rfl
                have ge13 : wg.cell? ⟨g7, 13, none⟩ = some (.pointer none) := by rw [cell_of_row wg _ _ _ _ _ h7]; rfl
                obtain ⟨x0, s0⟩ : ∃ v, wg.cell? ⟨w0.heap.size + 1, k * 14, none⟩ = some v := ⟨cur[k * 14 + 0], by rw [cell_of_row wg _ _ _ _ _ hrw]; simp⟩
                have t0 : wg.frozen? ⟨w0.heap.size + 1, k * 14, none⟩ = false := frozen_of_row wg _ _ _ _ hrw
                obtain ⟨x1, s1⟩ : ∃ v, wg.cell? ⟨w0.heap.size + 1, k * 14 + 1, none⟩ = some v := ⟨cur[k * 14 + 1], by rw [cell_of_row wg _ _ _ _ _ hrw]; simp⟩
                have t1 : wg.frozen? ⟨w0.heap.size + 1, k * 14 + 1, none⟩ = false := frozen_of_row wg _ _ _ _ hrw
                obtain ⟨x2, s2⟩ : ∃ v, wg.cell? ⟨w0.heap.size + 1, k * 14 + 2, none⟩ = some v := ⟨cur[k * 14 + 2], by rw [cell_of_row wg _ _ _ _ _ hrw]; simp⟩
                have t2 : wg.frozen? ⟨w0.heap.size + 1, k * 14 + 2, none⟩ = false := frozen_of_row wg _ _ _ _ hrw
                obtain ⟨x3, s3⟩ : ∃ v, wg.cell? ⟨w0.heap.size + 1, k * 14 + 3, none⟩ = some v := ⟨cur[k * 14 + 3], by rw [cell_of_row wg _ _ _ _ _ hrw]; simp⟩
                have t3 : wg.frozen? ⟨w0.heap.size + 1, k * 14 + 3, none⟩ = false := frozen_of_row wg _ _ _ _ hrw
                obtain ⟨x4, s4⟩ : ∃ v, wg.cell? ⟨w0.heap.size + 1, k * 14 + 4, none⟩ = some v := ⟨cur[k * 14 + 4], by rw [cell_of_row wg _ _ _ _ _ hrw]; simp⟩
                have t4 : wg.frozen? ⟨w0.heap.size + 1, k * 14 + 4, none⟩ = false := frozen_of_row wg _ _ _ _ hrw
                obtain ⟨x5, s5⟩ : ∃ v, wg.cell? ⟨w0.heap.size + 1, k * 14 + 5, none⟩ = some v := ⟨cur[k * 14 + 5], by rw [cell_of_row wg _ _ _ _ _ hrw]; simp⟩
                have t5 : wg.frozen? ⟨w0.heap.size + 1, k * 14 + 5, none⟩ = false := frozen_of_row wg _ _ _ _ hrw
                obtain ⟨x6, s6⟩ : ∃ v, wg.cell? ⟨w0.heap.size + 1, k * 14 + 6, none⟩ = some v := ⟨cur[k * 14 + 6], by rw [cell_of_row wg _ _ _ _ _ hrw]; simp⟩
                have t6 : wg.frozen? ⟨w0.heap.size + 1, k * 14 + 6, none⟩ = false := frozen_of_row wg _ _ _ _ hrw
                obtain ⟨x7, s7⟩ : ∃ v, wg.cell? ⟨w0.heap.size + 1, k * 14 + 7, none⟩ = some v := ⟨cur[k * 14 + 7], by rw [cell_of_row wg _ _ _ _ _ hrw]; simp⟩
                have t7 : wg.frozen? ⟨w0.heap.size + 1, k * 14 + 7, none⟩ = false := frozen_of_row wg _ _ _ _ hrw
                obtain ⟨x8, s8⟩ : ∃ v, wg.cell? ⟨w0.heap.size + 1, k * 14 + 8, none⟩ = some v := ⟨cur[k * 14 + 8], by rw [cell_of_row wg _ _ _ _ _ hrw]; simp⟩
                have t8 : wg.frozen? ⟨w0.heap.size + 1, k * 14 + 8, none⟩ = false := frozen_of_row wg _ _ _ _ hrw
                obtain ⟨x9, s9⟩ : ∃ v, wg.cell? ⟨w0.heap.size + 1, k * 14 + 9, none⟩ = some v := ⟨cur[k * 14 + 9], by rw [cell_of_row wg _ _ _ _ _ hrw]; simp⟩
                have t9 : wg.frozen? ⟨w0.heap.size + 1, k * 14 + 9, none⟩ = false := frozen_of_row wg _ _ _ _ hrw
                obtain ⟨x10, s10⟩ : ∃ v, wg.cell? ⟨w0.heap.size + 1, k * 14 + 10, none⟩ = some v := ⟨cur[k * 14 + 10], by rw [cell_of_row wg _ _ _ _ _ hrw]; simp⟩
                have t10 : wg.frozen? ⟨w0.heap.size + 1, k * 14 + 10, none⟩ = false := frozen_of_row wg _ _ _ _ hrw
                obtain ⟨x11, s11⟩ : ∃ v, wg.cell? ⟨w0.heap.size + 1, k * 14 + 11, none⟩ = some v := ⟨cur[k * 14 + 11], by rw [cell_of_row wg _ _ _ _ _ hrw]; simp⟩
                have t11 : wg.frozen? ⟨w0.heap.size + 1, k * 14 + 11, none⟩ = false := frozen_of_row wg _ _ _ _ hrw
                obtain ⟨x12, s12⟩ : ∃ v, wg.cell? ⟨w0.heap.size + 1, k * 14 + 12, none⟩ = some v := ⟨cur[k * 14 + 12], by rw [cell_of_row wg _ _ _ _ _ hrw]; simp⟩
                have t12 : wg.frozen? ⟨w0.heap.size + 1, k * 14 + 12, none⟩ = false := frozen_of_row wg _ _ _ _ hrw
                obtain ⟨x13, s13⟩ : ∃ v, wg.cell? ⟨w0.heap.size + 1, k * 14 + 13, none⟩ = some v := ⟨cur[k * 14 + 13], by rw [cell_of_row wg _ _ _ _ _ hrw]; simp⟩
                have t13 : wg.frozen? ⟨w0.heap.size + 1, k * 14 + 13, none⟩ = false := frozen_of_row wg _ _ _ _ hrw
                have n1 : g5 ≠ g7 := by omega
                have n2 : g7 ≠ g5 := by omega
                have n3 : g5 ≠ w0.heap.size + 1 := by omega
                have n4 : w0.heap.size + 1 ≠ g5 := by omega
                have HFG := hid hf
                have H7G := hid h7
                have HRW := hid hrw
                have HO1 := hid o1
                clear hf h7 hrw o1 HF H7 c9 q9 q9f
                go_wp2
                go_meet
                case rel =>
                  have hfh := HFG.out.set5 hwz (some ⟨g7, 0, none⟩)
                  have hrh : (wg.setCell ⟨g5, 5, none⟩ (.pointer (some ⟨g7, 0, none⟩))).heap[w0.heap.size + 1]? = some (.cells cur 91 (0, 0)) := (heap_setCell_other _ _ _ _ n4).trans HRW.out
                  have h7h : (wg.setCell ⟨g5, 5, none⟩ (.pointer (some ⟨g7, 0, none⟩))).heap[g7]? = some (.cells (Ee D k l) 91 (0, 0)) := (heap_setCell_other _ _ _ _ n2).trans H7G.out
                  generalize wg.setCell ⟨g5, 5, none⟩ (.pointer (some ⟨g7, 0, none⟩)) = wh at *
                  obtain ⟨cur', p1, p2, p3, p4⟩ := put14 wh (w0.heap.size + 1) (k * 14) cur (.string (tyOf (D.TY k))) (.string (D.OI k)) (.string (D.OP k)) (.int .u64 (tW (D.OA k))) (.int .i64 (tX (D.OA k))) (.pointer none) (.pointer none) (.pointer none) (.pointer none) (.pointer l) (.pointer none) (.pointer none) (.pointer none) (.pointer none) hq hrh
                  have ot := fun b hb => put14_other wh (w0.heap.size + 1) (k * 14) (.string (tyOf (D.TY k))) (.string (D.OI k)) (.string (D.OP k)) (.int .u64 (tW (D.OA k))) (.int .i64 (tX (D.OA k))) (.pointer none) (.pointer none) (.pointer none) (.pointer none) (.pointer l) (.pointer none) (.pointer none) (.pointer none) (.pointer none) b hb
                  exact ⟨some ⟨g7, 0, none⟩, l, fun b hb hne => (ot b hne).trans (hfh.same b hb), (ot g5 n3).trans hfh.r, ⟨cur', p1, by omega, fun j hj c hc => (by rw [HO1.out] at hc; cases hc; exact p3 j hj), fun _ => p4⟩, fun _ => ⟨g7, rfl, (ot g7 (by omega)).trans h7h, hlt7⟩, fun h => (by rw [hot] at h; cases h), put14_below wh (w0.heap.size + 1) (k * 14) (.string (tyOf (D.TY k))) (.string (D.OI k)) (.string (D.OP k)) (.int .u64 (tW (D.OA k))) (.int .i64 (tX (D.OA k))) (.pointer none) (.pointer none) (.pointer none) (.pointer none) (.pointer l) (.pointer none) (.pointer none) (.pointer none) (.pointer none) w0.heap.size w0 hfh.below (by omega), by omega⟩
          case rest =>
            obtain ⟨o, l, hfin⟩ := hcut
            rename World => we
            go_step
            obtain ⟨cur, o1, o2⟩ := HIV.out.rrow
            have hrw : we.heap[w0.heap.size]? = some (.cells cur 76 (0, 0)) := (hfin.same _ (lt_of_block o1) (by omega)).trans o1
            have hq : k * 6 + 6 ≤ cur.size := by omega
            have r0 : we.cell? ⟨g5, 0, none⟩ = some (.string (D.ID k)) := by rw [cell_of_row we _ _ _ _ _ hfin.r]; rfl
            have r1 : we.cell? ⟨g5, 1, none⟩ = some (.int .u64 (tW (D.AT k))) := by rw [cell_of_row we _ _ _ _ _ hfin.r]; rfl
            have r2 : we.cell? ⟨g5, 2, none⟩ = some (.int .i64 (tX (D.AT k))) := by rw [cell_of_row we _ _ _ _ _ hfin.r]; rfl
            have r3 : we.cell? ⟨g5, 3, none⟩ = some (.pointer none) := by rw [cell_of_row we _ _ _ _ _ hfin.r]; rfl
            have r4 : we.cell? ⟨g5, 4, none⟩ = some (.pointer m) := by rw [cell_of_row we _ _ _ _ _ hfin.r]; rfl
            have r5 : we.cell? ⟨g5, 5, none⟩ = some (.pointer o) := by rw [cell_of_row we _ _ _ _ _ hfin.r]; rfl
            obtain ⟨x0, s0⟩ : ∃ v, we.cell? ⟨w0.heap.size, k * 6, none⟩ = some v := ⟨cur[k * 6 + 0], by rw [cell_of_row we _ _ _ _ _ hrw]; simp⟩
            have t0 : we.frozen? ⟨w0.heap.size, k * 6, none⟩ = false := frozen_of_row we _ _ _ _ hrw
            obtain ⟨x1, s1⟩ : ∃ v, we.cell? ⟨w0.heap.size, k * 6 + 1, none⟩ = some v := ⟨cur[k * 6 + 1], by rw [cell_of_row we _ _ _ _ _ hrw]; simp⟩
            have t1 : we.frozen? ⟨w0.heap.size, k * 6 + 1, none⟩ = false := frozen_of_row we _ _ _ _ hrw
            obtain ⟨x2, s2⟩ : ∃ v, we.cell? ⟨w0.heap.size, k * 6 + 2, none⟩ = some v := ⟨cur[k * 6 + 2], by rw [cell_of_row we _ _ _ _ _ hrw]; simp⟩
            have t2 : we.frozen? ⟨w0.heap.size, k * 6 + 2, none⟩ = false := frozen_of_row we _ _ _ _ hrw
            obtain ⟨x3, s3⟩ : ∃ v, we.cell? ⟨w0.heap.size, k * 6 + 3, none⟩ = some v := ⟨cur[k * 6 + 3], by rw [cell_of_row we _ _ _ _ _ hrw]; simp⟩
            have t3 : we.frozen? ⟨w0.heap.size, k * 6 + 3, none⟩ = false := frozen_of_row we _ _ _ _ hrw
            obtain ⟨x4, s4⟩ : ∃ v, we.cell? ⟨w0.heap.size, k * 6 + 4, none⟩ = some v := ⟨cur[k * 6 + 4], by rw [cell_of_row we _ _ _ _ _ hrw]; simp⟩
            have t4 : we.frozen? ⟨w0.heap.size, k * 6 + 4, none⟩ = false := frozen_of_row we _ _ _ _ hrw
            obtain ⟨x5, s5⟩ : ∃ v, we.cell? ⟨w0.heap.size, k * 6 + 5, none⟩ = some v := ⟨cur[k * 6 + 5], by rw [cell_of_row we _ _ _ _ _ hrw]; simp⟩
            have t5 : we.frozen? ⟨w0.heap.size, k * 6 + 5, none⟩ = false := frozen_of_row we _ _ _ _ hrw
            have HFI := hid hfin
            have HRW := hid hrw
            have HO1 := hid o1
            clear hfin hrw o1 HF
            go_wp2
            have hle := HFI.out.le
            have hwz := HIV.out.below.size
            obtain ⟨oc, oc1, oc2⟩ := HIV.out.orow
            have hgo := lt_of_block oc1
            obtain ⟨cur', p1, p2, p3, p4⟩ := put6 we w0.heap.size (k * 6) cur (.string (D.ID k)) (.int .u64 (tW (D.AT k))) (.int .i64 (tX (D.AT k))) (.pointer none) (.pointer m) (.pointer o) hq HRW.out
            refine ⟨⟨k + 1, _, _, _, by omega, by go_num, HIV.out.step (by omega) hkn m o l (fun b hb h1 h2 => (put6_other we w0.heap.size (k * 6) _ _ _ _ _ _ b h1).trans (HFI.out.same b hb h2)) ⟨cur', p1, by omega, fun j hj c hc => (by rw [HO1.out] at hc; cases hc; exact p3 j hj), p4⟩ ?_ ?_ HFI.out.non ?_⟩, by simp [intOf]; omega⟩
            · obtain ⟨c2, d1, d2, d3, d4⟩ := HFI.out.orow
              exact ⟨c2, (put6_other we w0.heap.size (k * 6) _ _ _ _ _ _ (w0.heap.size + 1) (by omega)).trans d1, d2, d3, d4⟩
            · intro hot
              obtain ⟨b, hb, hbb, hlt⟩ := HFI.out.ent hot
              exact ⟨b, hb, (put6_other we w0.heap.size (k * 6) _ _ _ _ _ _ b (by omega)).trans hbb, by omega⟩
            · exact put6_below we w0.heap.size (k * 6) _ _ _ _ _ _ w0.heap.size w0 HFI.out.below (Nat.le_refl _)
    · obtain rfl : k = n := by omega
      have b2 : ¬ (k : Int) < (k : Int) := by omega
      clear hiv'
      go_upto_if 43 with fail
      iterate 6 go_step
      exact segU7 iv ra k rb ro rc w0.heap.size (w0.heap.size + 1) rn rcp qb qo R D M O L w0 wr h0 hiv HN.out hrn HIV.out.below (HI.out.later HIV.out.below) HIV.out.db HOK.out HRA.out (fun i hi => cell_later HIV.out.below (HR.out i hi)) HR2.out

end Go.Proofs.Ybulkebiw
