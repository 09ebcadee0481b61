import Derived.Test.YbulkebiwSegX
namespace Go.Proofs.Ybulkebiw
open Go.RowKit
set_option linter.unusedVariables false

/-- The numbers fit their kinds. -/
def Ok (n : Nat) (D : Dat) : Prop := ∀ i, i < n → (-9223372036854775808 ≤ D.AT i ∧ D.AT i ≤ 9223372036854775807) ∧ (-9223372036854775808 ≤ D.OA i ∧ D.OA i ≤ 9223372036854775807) ∧ 0 ≤ D.TY i

theorem alloc3 (w : World) (a b c : Obj) : (((w.alloc a).alloc b).alloc c).heap[w.heap.size + 2]? = some c := by
  have := heap_alloc_new ((w.alloc a).alloc b) c
  simpa using this
theorem alloc2 (w : World) (a b c : Obj) : (((w.alloc a).alloc b).alloc c).heap[w.heap.size + 1]? = some b := by
  rw [Below.heap_alloc _ _ _ (by simp)]
  have := heap_alloc_new (w.alloc a) b
  simpa using this
theorem alloc1 (w : World) (a b c : Obj) : (((w.alloc a).alloc b).alloc c).heap[w.heap.size]? = some a := by
  rw [Below.heap_alloc _ _ _ (by simp; omega), Below.heap_alloc _ _ _ (by simp)]
  exact heap_alloc_new _ _

/-- A whole row stored, at a step of a region that draws. -/
theorem step_store_row {ops : Array Oper} {o : Oper} {a : Act} {w : World} {K : Act → World → Prop} {Q : Exit → Act → World → Prop} {E : Prop} (hgd : o.guard = none) (ty : TypeId) (x y : Operand) (ho : o.op = .store ty x y)
    (g : Nat) (cells : Array Value) (hx : a.eval x = .pointer (some ⟨g, 0, none⟩)) (hy : a.eval y = .agg cells)
    (t : TypeId) (old : Array Value) (hg : w.heap[g]? = some (.cells old t (0, 0))) (hi : (Yba.prog.info? ty).map (·.size) = some cells.size)
    (hold : old.size = cells.size) (h1 : cells.all (·.oneCell') = true)
    (h : K (a.put o.dst undef) (w.setRow g cells)) : if Region.wanted o (yielded ops a.tmps) = true then Oper.wp Yba.prog o a w K Q else E := by
  have hw : Region.wanted o (yielded ops a.tmps) = true := by simp [Region.wanted, hgd]
  rw [if_pos hw]
  exact wp_store_row ty x y ho g cells hx hy t old hg hi hold h1 h

theorem setRow_below {B : Nat} {a w : World} {g : Nat} (cs : Array Value) (h : Below B a w) (hB : B ≤ g) : Below B a (w.setRow g cs) :=
  h.trans ⟨rfl, rfl, rfl, by simp, fun k hk => setRow_other w g k cs (by omega)⟩

theorem hset91 {w : World} {g k : Nat} {cs : Array Value} {v : Value} (h : w.heap[g]? = some (.cells cs 91 (0, 0))) : (w.setCell ⟨g, k, none⟩ v).heap[g]? = some (.cells (cs.setIfInBounds k v) 91 (0, 0)) := heap_setCell_same w g k cs 91 v h

theorem set14 (w : World) (g : Nat) (v0 v1 v2 v3 v4 v5 v6 v7 v8 v9 v10 v11 v12 v13 z0 z1 z2 z3 z4 z5 z6 z7 z8 z9 z10 z11 z12 z13 : Value) (h : w.heap[g]? = some (.cells #[z0, z1, z2, z3, z4, z5, z6, z7, z8, z9, z10, z11, z12, z13] 91 (0, 0))) :
    (((((((((((((((w.setCell ⟨g, 0, none⟩ v0).setCell ⟨g, 1, none⟩ v1).setCell ⟨g, 2, none⟩ v2).setCell ⟨g, 3, none⟩ v3).setCell ⟨g, 4, none⟩ v4).setCell ⟨g, 5, none⟩ v5).setCell ⟨g, 6, none⟩ v6).setCell ⟨g, 7, none⟩ v7).setCell ⟨g, 8, none⟩ v8).setCell ⟨g, 9, none⟩ v9).setCell ⟨g, 10, none⟩ v10).setCell ⟨g, 11, none⟩ v11).setCell ⟨g, 12, none⟩ v12).setCell ⟨g, 13, none⟩ v13)).heap[g]? = some (.cells #[v0, v1, v2, v3, v4, v5, v6, v7, v8, v9, v10, v11, v12, v13] 91 (0, 0)) := by
  have e := (hset91 (k := 13) (v := v13) (hset91 (k := 12) (v := v12) (hset91 (k := 11) (v := v11) (hset91 (k := 10) (v := v10) (hset91 (k := 9) (v := v9) (hset91 (k := 8) (v := v8) (hset91 (k := 7) (v := v7) (hset91 (k := 6) (v := v6) (hset91 (k := 5) (v := v5) (hset91 (k := 4) (v := v4) (hset91 (k := 3) (v := v3) (hset91 (k := 2) (v := v2) (hset91 (k := 1) (v := v1) (hset91 (k := 0) (v := v0) h))))))))))))))
  simpa only [List.setIfInBounds_toArray, List.set_cons_zero, List.set_cons_succ] using e

theorem set14_below (w : World) (g : Nat) (v0 v1 v2 v3 v4 v5 v6 v7 v8 v9 v10 v11 v12 v13 : Value) (B : Nat) (a : World) (hb : Below B a w) (hB : B ≤ g) : Below B a (((((((((((((((w.setCell ⟨g, 0, none⟩ v0).setCell ⟨g, 1, none⟩ v1).setCell ⟨g, 2, none⟩ v2).setCell ⟨g, 3, none⟩ v3).setCell ⟨g, 4, none⟩ v4).setCell ⟨g, 5, none⟩ v5).setCell ⟨g, 6, none⟩ v6).setCell ⟨g, 7, none⟩ v7).setCell ⟨g, 8, none⟩ v8).setCell ⟨g, 9, none⟩ v9).setCell ⟨g, 10, none⟩ v10).setCell ⟨g, 11, none⟩ v11).setCell ⟨g, 12, none⟩ v12).setCell ⟨g, 13, none⟩ v13)) :=
  ((((((((((((((hb.setCell hB v0).setCell hB v1).setCell hB v2).setCell hB v3).setCell hB v4).setCell hB v5).setCell hB v6).setCell hB v7).setCell hB v8).setCell hB v9).setCell hB v10).setCell hB v11).setCell hB v12).setCell hB v13)

theorem mod_idx (iv : Int) (n : Nat) (h0 : 0 < n) (hn : n ≤ 1048576) : ∃ x : Nat, x < n ∧ wrap64 (iv % (n : Int)) = (x : Int) := by
  have h1 := Int.emod_nonneg iv (show (n : Int) ≠ 0 by omega)
  have h2 := Int.emod_lt_of_pos iv (show (0 : Int) < (n : Int) by omega)
  refine ⟨(iv % (n : Int)).toNat, by omega, ?_⟩
  generalize iv % (n : Int) = y at *
  unfold wrap64
  omega

set_option maxHeartbeats 4000000 in
set_option maxRecDepth 100000 in
theorem segX10 {u1 u3 u4 u5 u6 u10 u11 u12 u13 u15 u16 u18 u19 u20 u21 u22 u23 u24 u25 u26 u27 u28 u29 u30 u31 u32 u33 u34 u35 u36 u37 u38 u39 u40 u41 u42 u43 u44 u45 u46 u47 u48 u49 u50 u51 u52 u53 u54 u55 u56 u57 u58 u59 u60 u61 u62 u63 u64 u65 u66 u67 u68 u69 u70 u71 u72 u73 u74 u75 u76 u77 u78 u79 u80 u81 u82 u83 u84 u85 u86 u87 u88 u89 u90 u91 u92 u93 u94 u95 u96 u97 u98 u99 u100 u101 u102 u103 u104 u105 u106 u107 u108 u109 u110 u111 u112 u113 u114 u115 u116 u117 u118 u119 u120 u121 u122 u123 u124 u125 u126 u127 u128 u129 u130 u131 u132 u133 u134 u135 u136 u137 u138 u139 u140 u141 u142 u143 u144 u145 u146 u147 u148 u149 u150 u151 u152 u153 u154 u155 u156 u157 u158 u159 u160 u161 u162 u163 u164 u165 u166 u167 u168 u169 u170 u171 u172 u173 u174 u175 u176 u177 u178 u179 u180 u181 u182 u183 u184 u185 u186 u187 u188 u189 u190 u191 u192 u193 u194 u195 u196 u197 u198 u199 u200 u201 u202 u203 u204 u205 u206 u207 u208 u209 u210 u211 u212 u213 u214 u215 u216 u217 u218 u219 u220 u221 u222 u223 u224 u225 u226 u227 : Value} (iv : Int) (n rb ro rc gr go gp gc cc : Nat) (D : Dat) (M O L : Nat → Option Addr) (P : Nat → Int) (W w0 : World) (h0 : 0 < n) (hiv : 0 ≤ iv) (hn : n ≤ 1048576) (hb : Below W.heap.size W w0) (hin : In w0 rb ro n D) (hd : Db w0 gr go n D M O L)
    (hp : ∀ i, i < n → w0.cell? ⟨gp, i, none⟩ = some (.int .i64 (P i))) (hc : ∀ i, i < n → w0.cell? ⟨gc, i, none⟩ = some (.int .i64 (P i))) (hP : ∀ i, i < n → P i < n) (hok : Ok n D) :
    Code.wp Yba.prog (dropSeq 10 (Yba.f4.body.getD .skip)) (bodyPost Yba.prog Yba.f4 (fun e w' => e = .returned (.bool true) ∧ Below W.heap.size W w'))
      ⟨(List.toArray (.slice (some ⟨rb, ro, none⟩) n rc :: u1 :: .int .u64 iv :: u3 :: u4 :: u5 :: u6 :: .int .i64 n :: .slice (some ⟨gr, 0, none⟩) n n :: .slice (some ⟨go, 0, none⟩) n n :: u10 :: u11 :: u12 :: u13 :: .slice (some ⟨gp, 0, none⟩) n n :: u15 :: u16 :: .slice (some ⟨gc, 0, none⟩) n cc :: u18 :: u19 :: u20 :: u21 :: u22 :: u23 :: u24 :: u25 :: u26 :: u27 :: u28 :: u29 :: u30 :: u31 :: u32 :: u33 :: u34 :: u35 :: u36 :: u37 :: u38 :: u39 :: u40 :: u41 :: u42 :: u43 :: u44 :: u45 :: u46 :: u47 :: u48 :: u49 :: u50 :: u51 :: u52 :: u53 :: u54 :: u55 :: u56 :: u57 :: u58 :: u59 :: u60 :: u61 :: u62 :: u63 :: u64 :: u65 :: u66 :: u67 :: u68 :: u69 :: u70 :: u71 :: u72 :: u73 :: u74 :: u75 :: u76 :: u77 :: u78 :: u79 :: u80 :: u81 :: u82 :: u83 :: u84 :: u85 :: u86 :: u87 :: u88 :: u89 :: u90 :: u91 :: u92 :: u93 :: u94 :: u95 :: u96 :: u97 :: u98 :: u99 :: u100 :: u101 :: u102 :: u103 :: u104 :: u105 :: u106 :: u107 :: u108 :: u109 :: u110 :: u111 :: u112 :: u113 :: u114 :: u115 :: u116 :: u117 :: u118 :: u119 :: u120 :: u121 :: u122 :: u123 :: u124 :: u125 :: u126 :: u127 :: u128 :: u129 :: u130 :: u131 :: u132 :: u133 :: u134 :: u135 :: u136 :: u137 :: u138 :: u139 :: u140 :: u141 :: u142 :: u143 :: u144 :: u145 :: u146 :: u147 :: u148 :: u149 :: u150 :: u151 :: u152 :: u153 :: u154 :: u155 :: u156 :: u157 :: u158 :: u159 :: u160 :: u161 :: u162 :: u163 :: u164 :: u165 :: u166 :: u167 :: u168 :: u169 :: u170 :: u171 :: u172 :: u173 :: u174 :: u175 :: u176 :: u177 :: u178 :: u179 :: u180 :: u181 :: u182 :: u183 :: u184 :: u185 :: u186 :: u187 :: u188 :: u189 :: u190 :: u191 :: u192 :: u193 :: u194 :: u195 :: u196 :: u197 :: u198 :: u199 :: u200 :: u201 :: u202 :: u203 :: u204 :: u205 :: u206 :: u207 :: u208 :: u209 :: u210 :: u211 :: u212 :: u213 :: u214 :: u215 :: u216 :: u217 :: u218 :: u219 :: u220 :: u221 :: u222 :: u223 :: u224 :: u225 :: u226 :: u227 :: [])), []⟩ w0 := by
  conv => arg 2; whnf
  have HN := hid hn
  have HB := hid hb
  have HI := hid hin
  have HD := hid hd
  have HP := hid hp
  have HC := hid hc
  have HPP := hid hP
  obtain ⟨x, hx, hxe⟩ := mod_idx iv n h0 hn
  have bu : IntKind.u64.wrap (n : Int) = (n : Int) := by rw [IntKind.wrap_u64]; omega
  have bz : ¬ ((n : Int) = 0) := by omega
  clear hb hin hd hp hc hP
  go_upto_region 36 with fail
  rw [hxe]
  have hb1 : Below w0.heap.size w0 (w0.alloc (.cells #[.slice (some ⟨gr, 0, none⟩) n n, .slice (some ⟨gp, 0, none⟩) n n, .slice none 0 0, .slice none 0 0, .int .i64 (-1), .string ⟨#[]⟩] 97)) := (Below.refl _ _).alloc (Nat.le_refl _) _
  have v0 : (w0.alloc (.cells #[.slice (some ⟨gr, 0, none⟩) n n, .slice (some ⟨gp, 0, none⟩) n n, .slice none 0 0, .slice none 0 0, .int .i64 (-1), .string ⟨#[]⟩] 97)).cell? ⟨w0.heap.size, 0, none⟩ = some (.slice (some ⟨gr, 0, none⟩) n n) := by rw [cell_of_row _ w0.heap.size _ _ _ _ (heap_alloc_new _ _)]; rfl
  have v1 : (w0.alloc (.cells #[.slice (some ⟨gr, 0, none⟩) n n, .slice (some ⟨gp, 0, none⟩) n n, .slice none 0 0, .slice none 0 0, .int .i64 (-1), .string ⟨#[]⟩] 97)).cell? ⟨w0.heap.size, 1, none⟩ = some (.slice (some ⟨gp, 0, none⟩) n n) := by rw [cell_of_row _ w0.heap.size _ _ _ _ (heap_alloc_new _ _)]; rfl
  have HOK := hid hok
  have hin1 := HI.out.later hb1
  have hd1 := HD.out.later hb1
  have HI1 := hid hin1
  have HD1 := hid hd1
  have HP1 : Hid (∀ i, i < n → _) := hid (fun i hi => cell_later hb1 (HP.out i hi))
  have HC1 : Hid (∀ i, i < n → _) := hid (fun i hi => cell_later hb1 (HC.out i hi))
  have HB1 := hid (HB.out.trans (hb1.mono HB.out.size))
  clear hb1 HI HD HP HC HB hin1 hd1 hxe bu bz
  generalize (w0.alloc (.cells #[.slice (some ⟨gr, 0, none⟩) n n, .slice (some ⟨gp, 0, none⟩) n n, .slice none 0 0, .slice none 0 0, .int .i64 (-1), .string ⟨#[]⟩] 97)) = w1 at *
  generalize w0.heap.size = gv at *
  have V0 := hid v0
  have V1 := hid v1
  have b1 : (0 : Int) ≤ (x : Int) := by omega
  have b2 : (x : Int) < (n : Int) := by omega
  have hpid : Hid (0 ≤ P x → w1.cell? ⟨gr, (P x).toNat * 6, none⟩ = some (.string (D.ID (P x).toNat))) := hid (fun h => (HD1.out.rcd (P x).toNat (by have := HPP.out x hx; omega)).c0)
  cases hot : D.OT x
  · have hno := HD1.out.non x hx hot
    have hrx := HD1.out.rcd x hx
    rw [hno] at hrx
    go_wp2_with fail
    have hcall := entry_none gv gr gp n x (D.ID x) (tW (D.AT x)) (tX (D.AT x)) (M x) (P x) (D.ID (P x).toNat) w1 hx V0.out V1.out hrx (HP1.out x hx) (HPP.out x hx) hpid.out
    obtain ⟨pp, hpp⟩ : ∃ pp, pp = (if 0 ≤ P x then D.ID (P x).toNat else ByteArray.empty) := ⟨_, rfl⟩
    rw [← hpp] at hcall
    have HPX := hid hpp
    refine hcall.mono ?_
    clear hcall hpp
    rintro e wx ⟨rfl, hbx⟩
    have hinx := HI1.out.later hbx
    have hdx := HD1.out.later hbx
    have HX := hid hbx
    have lb1 : rb < wx.heap.size + 1 := Nat.lt_succ_of_lt (World.block_lt_of_cell? _ _ (hinx x hx 0 _ rfl))
    have lb : rb < wx.heap.size := World.block_lt_of_cell? _ _ (hinx x hx 0 _ rfl)
    have i0 : wx.cell? ⟨rb, ro + x * 10, none⟩ = some (.string (D.ID x)) := hinx x hx 0 _ rfl
    have i1 : wx.cell? ⟨rb, ro + x * 10 + 1, none⟩ = some (.int .i64 (D.AT x)) := hinx x hx 1 _ rfl
    have i2 : wx.cell? ⟨rb, ro + x * 10 + 2, none⟩ = some (.bool (D.HM x)) := hinx x hx 2 _ rfl
    have i3 : wx.cell? ⟨rb, ro + x * 10 + 3, none⟩ = some (.string (D.MO x)) := hinx x hx 3 _ rfl
    have i4 : wx.cell? ⟨rb, ro + x * 10 + 4, none⟩ = some (.bool false) := (hinx x hx 4 _ rfl).trans (by rw [hot])
    have i5 : wx.cell? ⟨rb, ro + x * 10 + 5, none⟩ = some (.int .u8 (D.TY x)) := hinx x hx 5 _ rfl
    have i6 : wx.cell? ⟨rb, ro + x * 10 + 6, none⟩ = some (.string (D.OI x)) := hinx x hx 6 _ rfl
    have i7 : wx.cell? ⟨rb, ro + x * 10 + 7, none⟩ = some (.string (D.OP x)) := hinx x hx 7 _ rfl
    have i8 : wx.cell? ⟨rb, ro + x * 10 + 8, none⟩ = some (.int .i64 (D.OA x)) := hinx x hx 8 _ rfl
    have i9 : wx.cell? ⟨rb, ro + x * 10 + 9, none⟩ = some (.bool (D.OL x)) := hinx x hx 9 _ rfl
    have r4 := (hdx.rcd x hx).c4
    have lr : gr < wx.heap.size := World.block_lt_of_cell? _ _ r4
    have lr1 : gr < wx.heap.size + 1 := by omega
    have lr2 : gr < wx.heap.size + 1 + 1 := by omega
    have lr3 : gr < wx.heap.size + 1 + 1 + 1 := by omega
    clear hbx hinx hdx hrx
    go_upto_if 141 with fail
    go_step
    have hg3 : (((wx.alloc (.cells (E14 msgB (D.ID x) pp (tW (D.AT x)) (tX (D.AT x)) (M x) none) 91)).alloc (.cells #[.string (D.ID x), .int .i64 (D.AT x), .bool (D.HM x), .string (D.MO x), .bool false, .int .u8 (D.TY x), .string (D.OI x), .string (D.OP x), .int .i64 (D.OA x), .bool (D.OL x)] 66)).alloc (.cells (E14 ⟨#[]⟩ ⟨#[]⟩ ⟨#[]⟩ 0 0 none none) 91)).heap[wx.heap.size]? = some (.cells (E14 msgB (D.ID x) pp (tW (D.AT x)) (tX (D.AT x)) (M x) none) 91 (0, 0)) := alloc1 _ _ _ _
    have hd3 : (((wx.alloc (.cells (E14 msgB (D.ID x) pp (tW (D.AT x)) (tX (D.AT x)) (M x) none) 91)).alloc (.cells #[.string (D.ID x), .int .i64 (D.AT x), .bool (D.HM x), .string (D.MO x), .bool false, .int .u8 (D.TY x), .string (D.OI x), .string (D.OP x), .int .i64 (D.OA x), .bool (D.OL x)] 66)).alloc (.cells (E14 ⟨#[]⟩ ⟨#[]⟩ ⟨#[]⟩ 0 0 none none) 91)).heap[wx.heap.size + 1]? = some (.cells #[.string (D.ID x), .int .i64 (D.AT x), .bool (D.HM x), .string (D.MO x), .bool false, .int .u8 (D.TY x), .string (D.OI x), .string (D.OP x), .int .i64 (D.OA x), .bool (D.OL x)] 66 (0, 0)) := alloc2 _ _ _ _
    have hw3 : (((wx.alloc (.cells (E14 msgB (D.ID x) pp (tW (D.AT x)) (tX (D.AT x)) (M x) none) 91)).alloc (.cells #[.string (D.ID x), .int .i64 (D.AT x), .bool (D.HM x), .string (D.MO x), .bool false, .int .u8 (D.TY x), .string (D.OI x), .string (D.OP x), .int .i64 (D.OA x), .bool (D.OL x)] 66)).alloc (.cells (E14 ⟨#[]⟩ ⟨#[]⟩ ⟨#[]⟩ 0 0 none none) 91)).heap[wx.heap.size + 1 + 1]? = some (.cells (E14 ⟨#[]⟩ ⟨#[]⟩ ⟨#[]⟩ 0 0 none none) 91 (0, 0)) := alloc3 _ _ _ _
    have hb3 : Below wx.heap.size wx (((wx.alloc (.cells (E14 msgB (D.ID x) pp (tW (D.AT x)) (tX (D.AT x)) (M x) none) 91)).alloc (.cells #[.string (D.ID x), .int .i64 (D.AT x), .bool (D.HM x), .string (D.MO x), .bool false, .int .u8 (D.TY x), .string (D.OI x), .string (D.OP x), .int .i64 (D.OA x), .bool (D.OL x)] 66)).alloc (.cells (E14 ⟨#[]⟩ ⟨#[]⟩ ⟨#[]⟩ 0 0 none none) 91)) := (((Below.refl _ _).alloc (Nat.le_refl _) _).alloc (by simp) _).alloc (by simp; omega) _
    have r43 := cell_later hb3 r4
    generalize (((wx.alloc (.cells (E14 msgB (D.ID x) pp (tW (D.AT x)) (tX (D.AT x)) (M x) none) 91)).alloc (.cells #[.string (D.ID x), .int .i64 (D.AT x), .bool (D.HM x), .string (D.MO x), .bool false, .int .u8 (D.TY x), .string (D.OI x), .string (D.OP x), .int .i64 (D.OA x), .bool (D.OL x)] 66)).alloc (.cells (E14 ⟨#[]⟩ ⟨#[]⟩ ⟨#[]⟩ 0 0 none none) 91)) = w3 at *
    have e0 : w3.cell? ⟨wx.heap.size + 1, 0, none⟩ = some (.string (D.ID x)) := by rw [cell_of_row w3 _ _ _ _ _ hd3]; rfl
    have e1 : w3.cell? ⟨wx.heap.size + 1, 1, none⟩ = some (.int .i64 (D.AT x)) := by rw [cell_of_row w3 _ _ _ _ _ hd3]; rfl
    have ok := (HOK.out x hx).1
    have lw3 : wx.heap.size + 1 + 1 < w3.heap.size := lt_of_block hw3
    have lgr : gr ≠ wx.heap.size + 1 + 1 := by omega
    have lgr2 : wx.heap.size + 1 + 1 ≠ gr := by omega
    have lgr3 : ¬ (gr = wx.heap.size + 1 + 1) := by omega
    have HG3 := hid hg3
    have HW3 := hid hw3
    have HB3 := hid hb3
    have hinf : (Yba.prog.info? 91).map (·.size) = some 14 := by kernel_rfl
    clear r4 hg3 hd3 hw3 hb3 i0 i1 i2 i3 i4 i5 i6 i7 i8 i9
    go_region_held3 (fun w' => w'.cell? ⟨wx.heap.size + 1, 0, none⟩ = some (.string (D.ID x)) ∧ w'.cell? ⟨wx.heap.size + 1, 1, none⟩ = some (.int .i64 (D.AT x)) ∧ w'.cell? ⟨gr, x * 6 + 4, none⟩ = some (.pointer (M x))) (go_keep)
      (first
        | (go_at_call 6; refine (add_any (D.AT x) _ ok.1 ok.2).mono ?_; rintro e w4 ⟨rfl, hb4⟩; have f0 : w4.cell? ⟨wx.heap.size + 1, 0, none⟩ = some (.string (D.ID x)) := cell_later hb4 e0; have f1 : w4.cell? ⟨wx.heap.size + 1, 1, none⟩ = some (.int .i64 (D.AT x)) := cell_later hb4 e1; have f4 : w4.cell? ⟨gr, x * 6 + 4, none⟩ = some (.pointer (M x)) := cell_later hb4 r43; have hw4 : w4.heap[wx.heap.size + 1 + 1]? = some (.cells (E14 ⟨#[]⟩ ⟨#[]⟩ ⟨#[]⟩ 0 0 none none) 91 (0, 0)) := (hb4.block _ (show wx.heap.size + 1 + 1 < w3.drew.heap.size from lw3)).trans HW3.out; have z0 : w4.cell? ⟨wx.heap.size + 1 + 1, 0, none⟩ = some (.string ⟨#[]⟩) := (cell_of_row w4 _ _ _ _ _ hw4).trans rfl; have y0 : w4.frozen? ⟨wx.heap.size + 1 + 1, 0, none⟩ = false := frozen_of_row w4 _ _ _ _ hw4; have z1 : w4.cell? ⟨wx.heap.size + 1 + 1, 1, none⟩ = some (.string ⟨#[]⟩) := (cell_of_row w4 _ _ _ _ _ hw4).trans rfl; have y1 : w4.frozen? ⟨wx.heap.size + 1 + 1, 1, none⟩ = false := frozen_of_row w4 _ _ _ _ hw4; have z2 : w4.cell? ⟨wx.heap.size + 1 + 1, 2, none⟩ = some (.string ⟨#[]⟩) := (cell_of_row w4 _ _ _ _ _ hw4).trans rfl; have y2 : w4.frozen? ⟨wx.heap.size + 1 + 1, 2, none⟩ = false := frozen_of_row w4 _ _ _ _ hw4; have z3 : w4.cell? ⟨wx.heap.size + 1 + 1, 3, none⟩ = some (.int .u64 0) := (cell_of_row w4 _ _ _ _ _ hw4).trans rfl; have y3 : w4.frozen? ⟨wx.heap.size + 1 + 1, 3, none⟩ = false := frozen_of_row w4 _ _ _ _ hw4; have z4 : w4.cell? ⟨wx.heap.size + 1 + 1, 4, none⟩ = some (.int .i64 0) := (cell_of_row w4 _ _ _ _ _ hw4).trans rfl; have y4 : w4.frozen? ⟨wx.heap.size + 1 + 1, 4, none⟩ = false := frozen_of_row w4 _ _ _ _ hw4; have z5 : w4.cell? ⟨wx.heap.size + 1 + 1, 5, none⟩ = some (.pointer none) := (cell_of_row w4 _ _ _ _ _ hw4).trans rfl; have y5 : w4.frozen? ⟨wx.heap.size + 1 + 1, 5, none⟩ = false := frozen_of_row w4 _ _ _ _ hw4; have z6 : w4.cell? ⟨wx.heap.size + 1 + 1, 6, none⟩ = some (.pointer none) := (cell_of_row w4 _ _ _ _ _ hw4).trans rfl; have y6 : w4.frozen? ⟨wx.heap.size + 1 + 1, 6, none⟩ = false := frozen_of_row w4 _ _ _ _ hw4; have z7 : w4.cell? ⟨wx.heap.size + 1 + 1, 7, none⟩ = some (.pointer none) := (cell_of_row w4 _ _ _ _ _ hw4).trans rfl; have y7 : w4.frozen? ⟨wx.heap.size + 1 + 1, 7, none⟩ = false := frozen_of_row w4 _ _ _ _ hw4; have z8 : w4.cell? ⟨wx.heap.size + 1 + 1, 8, none⟩ = some (.pointer none) := (cell_of_row w4 _ _ _ _ _ hw4).trans rfl; have y8 : w4.frozen? ⟨wx.heap.size + 1 + 1, 8, none⟩ = false := frozen_of_row w4 _ _ _ _ hw4; have z9 : w4.cell? ⟨wx.heap.size + 1 + 1, 9, none⟩ = some (.pointer none) := (cell_of_row w4 _ _ _ _ _ hw4).trans rfl; have y9 : w4.frozen? ⟨wx.heap.size + 1 + 1, 9, none⟩ = false := frozen_of_row w4 _ _ _ _ hw4; have z10 : w4.cell? ⟨wx.heap.size + 1 + 1, 10, none⟩ = some (.pointer none) := (cell_of_row w4 _ _ _ _ _ hw4).trans rfl; have y10 : w4.frozen? ⟨wx.heap.size + 1 + 1, 10, none⟩ = false := frozen_of_row w4 _ _ _ _ hw4; have z11 : w4.cell? ⟨wx.heap.size + 1 + 1, 11, none⟩ = some (.pointer none) := (cell_of_row w4 _ _ _ _ _ hw4).trans rfl; have y11 : w4.frozen? ⟨wx.heap.size + 1 + 1, 11, none⟩ = false := frozen_of_row w4 _ _ _ _ hw4; have z12 : w4.cell? ⟨wx.heap.size + 1 + 1, 12, none⟩ = some (.pointer none) := (cell_of_row w4 _ _ _ _ _ hw4).trans rfl; have y12 : w4.frozen? ⟨wx.heap.size + 1 + 1, 12, none⟩ = false := frozen_of_row w4 _ _ _ _ hw4; have z13 : w4.cell? ⟨wx.heap.size + 1 + 1, 13, none⟩ = some (.pointer none) := (cell_of_row w4 _ _ _ _ _ hw4).trans rfl; have y13 : w4.frozen? ⟨wx.heap.size + 1 + 1, 13, none⟩ = false := frozen_of_row w4 _ _ _ _ hw4; have HW4 := hid hw4; clear hw4))
    go_step
    go_step
    have B4 : Below (wx.heap.size + 1 + 1) w3 w4 := ((Below.refl _ _).drew).trans (hb4.mono (by have := lw3; show wx.heap.size + 1 + 1 ≤ w3.heap.size; omega))
    have h1 := HX.out.size
    have h3 := HB3.out.size
    refine segX16 n rb ro rc gr go gv gp gc cc wx.heap.size (wx.heap.size + 1 + 1) x D M O L P msgB (D.ID x) ByteArray.empty (tW (D.AT x)) (tX (D.AT x)) (M x) none W w1 _ hx HN.out HB1.out HI1.out HD1.out V0.out V1.out HP1.out HC1.out HPP.out ?_ ?_ ?_ ?_ ?_
    · have b5 : Below w1.heap.size w1 w4 := HX.out.trans ((HB3.out.trans (B4.mono (by omega))).mono h1)
      exact set14_below w4 (wx.heap.size + 1 + 1) _ _ _ _ _ _ _ _ _ _ _ _ _ _ _ _ b5 (by omega)
    · omega
    · omega
    · rw [← HPX.out]
      exact ((set14_below w4 (wx.heap.size + 1 + 1) _ _ _ _ _ _ _ _ _ _ _ _ _ _ _ _ B4 (Nat.le_refl _)).block wx.heap.size (by omega)).trans HG3.out
    · exact set14 w4 (wx.heap.size + 1 + 1) _ _ _ _ _ _ _ _ _ _ _ _ _ _ _ _ _ _ _ _ _ _ _ _ _ _ _ _ HW4.out
  · obtain ⟨b, hO, hbk⟩ := HD1.out.ent x hx hot
    have hrx := HD1.out.rcd x hx
    rw [hO] at hrx
    go_wp2_with fail
    have hcall := entry_some gv gr gp n x b (D.ID x) (tW (D.AT x)) (tX (D.AT x)) (M x) (tyOf (D.TY x)) (D.OI x) (D.OP x) (tW (D.OA x)) (tX (D.OA x)) none (L x) (P x) (D.ID (P x).toNat) w1 hx V0.out V1.out hrx hbk (HP1.out x hx) (HPP.out x hx) hpid.out
    obtain ⟨pp, hpp⟩ : ∃ pp, pp = (if 0 ≤ P x then D.ID (P x).toNat else D.OP x) := ⟨_, rfl⟩
    rw [← hpp] at hcall
    have HPX := hid hpp
    refine hcall.mono ?_
    clear hcall hpp
    rintro e wx ⟨rfl, hbx⟩
    have hinx := HI1.out.later hbx
    have hdx := HD1.out.later hbx
    have HX := hid hbx
    have lb1 : rb < wx.heap.size + 1 := Nat.lt_succ_of_lt (World.block_lt_of_cell? _ _ (hinx x hx 0 _ rfl))
    have lb : rb < wx.heap.size := World.block_lt_of_cell? _ _ (hinx x hx 0 _ rfl)
    have i0 : wx.cell? ⟨rb, ro + x * 10, none⟩ = some (.string (D.ID x)) := hinx x hx 0 _ rfl
    have i1 : wx.cell? ⟨rb, ro + x * 10 + 1, none⟩ = some (.int .i64 (D.AT x)) := hinx x hx 1 _ rfl
    have i2 : wx.cell? ⟨rb, ro + x * 10 + 2, none⟩ = some (.bool (D.HM x)) := hinx x hx 2 _ rfl
    have i3 : wx.cell? ⟨rb, ro + x * 10 + 3, none⟩ = some (.string (D.MO x)) := hinx x hx 3 _ rfl
    have i4 : wx.cell? ⟨rb, ro + x * 10 + 4, none⟩ = some (.bool true) := (hinx x hx 4 _ rfl).trans (by rw [hot])
    have i5 : wx.cell? ⟨rb, ro + x * 10 + 5, none⟩ = some (.int .u8 (D.TY x)) := hinx x hx 5 _ rfl
    have i6 : wx.cell? ⟨rb, ro + x * 10 + 6, none⟩ = some (.string (D.OI x)) := hinx x hx 6 _ rfl
    have i7 : wx.cell? ⟨rb, ro + x * 10 + 7, none⟩ = some (.string (D.OP x)) := hinx x hx 7 _ rfl
    have i8 : wx.cell? ⟨rb, ro + x * 10 + 8, none⟩ = some (.int .i64 (D.OA x)) := hinx x hx 8 _ rfl
    have i9 : wx.cell? ⟨rb, ro + x * 10 + 9, none⟩ = some (.bool (D.OL x)) := hinx x hx 9 _ rfl
    have o0 : wx.cell? ⟨go, x * 14, none⟩ = some (.string (tyOf (D.TY x))) := hdx.oth x hx hot 0 _ rfl
    have o1 : wx.cell? ⟨go, x * 14 + 1, none⟩ = some (.string (D.OI x)) := hdx.oth x hx hot 1 _ rfl
    have o2 : wx.cell? ⟨go, x * 14 + 2, none⟩ = some (.string (D.OP x)) := hdx.oth x hx hot 2 _ rfl
    have o3 : wx.cell? ⟨go, x * 14 + 3, none⟩ = some (.int .u64 (tW (D.OA x))) := hdx.oth x hx hot 3 _ rfl
    have o4 : wx.cell? ⟨go, x * 14 + 4, none⟩ = some (.int .i64 (tX (D.OA x))) := hdx.oth x hx hot 4 _ rfl
    have o5 : wx.cell? ⟨go, x * 14 + 5, none⟩ = some (.pointer none) := hdx.oth x hx hot 5 _ rfl
    have o6 : wx.cell? ⟨go, x * 14 + 6, none⟩ = some (.pointer none) := hdx.oth x hx hot 6 _ rfl
    have o7 : wx.cell? ⟨go, x * 14 + 7, none⟩ = some (.pointer none) := hdx.oth x hx hot 7 _ rfl
    have o8 : wx.cell? ⟨go, x * 14 + 8, none⟩ = some (.pointer none) := hdx.oth x hx hot 8 _ rfl
    have o9 : wx.cell? ⟨go, x * 14 + 9, none⟩ = some (.pointer (L x)) := hdx.oth x hx hot 9 _ rfl
    have o10 : wx.cell? ⟨go, x * 14 + 10, none⟩ = some (.pointer none) := hdx.oth x hx hot 10 _ rfl
    have o11 : wx.cell? ⟨go, x * 14 + 11, none⟩ = some (.pointer none) := hdx.oth x hx hot 11 _ rfl
    have o12 : wx.cell? ⟨go, x * 14 + 12, none⟩ = some (.pointer none) := hdx.oth x hx hot 12 _ rfl
    have o13 : wx.cell? ⟨go, x * 14 + 13, none⟩ = some (.pointer none) := hdx.oth x hx hot 13 _ rfl
    have lo : go < wx.heap.size := World.block_lt_of_cell? _ _ o0
    have lo1 : go < wx.heap.size + 1 := by omega
    have lo2 : go < wx.heap.size + 1 + 1 := by omega
    have lo3 : go < wx.heap.size + 2 := by omega
    clear hbx hinx hdx hrx hbk
    go_upto_if 141 with fail
    iterate 20 go_step
    refine segX16 n rb ro rc gr go gv gp gc cc wx.heap.size (wx.heap.size + 2) x D M O L P (tyOf (D.TY x)) (D.OI x) (D.OP x) (tW (D.OA x)) (tX (D.OA x)) none (L x) W w1 _ hx HN.out HB1.out HI1.out HD1.out V0.out V1.out HP1.out HC1.out HPP.out ?_ ?_ ?_ ?_ ?_
    · have := HX.out.size
      exact ((HX.out.alloc (by omega) _).alloc (by simp; omega) _).alloc (by simp; omega) _
    · have := HX.out.size; omega
    · omega
    · rw [← HPX.out]
      exact alloc1 _ _ _ _
    · exact alloc3 _ _ _ _

end Go.Proofs.Ybulkebiw
