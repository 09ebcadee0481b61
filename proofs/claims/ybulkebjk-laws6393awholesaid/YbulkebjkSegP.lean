import Derived.Test.YbulkebjkPt
namespace Go.Proofs.Ybulkebjk
open Go.RowKit
set_option linter.unusedVariables false

theorem par_eq (Z : Nat → Nat) (q : Nat) (h : q ≤ 65536) : wrap64 ((q : Int) - wrap64 ((Z q : Int) % ((q : Int) + 1))) = (par Z (q + 1) : Nat) := by
  have h1 : (Z q : Int) % ((q : Int) + 1) = ((Z q % (q + 1) : Nat) : Int) := by simp
  have h2 := Nat.mod_lt (Z q) (show q + 1 > 0 by omega)
  rw [h1]
  have e : par Z (q + 1) = q - Z q % (q + 1) := rfl
  rw [e]
  generalize Z q % (q + 1) = m at *
  have e1 : wrap64 (m : Int) = (m : Int) := by unfold wrap64; omega
  have e2 : wrap64 ((q : Int) - (m : Int)) = (q : Int) - (m : Int) := by unfold wrap64; omega
  rw [e1, e2]
  omega

theorem mm_run (x : Int) (w : World) : (Instr.makeMap 39 (some (.int .i64 x))).run Yba.prog w = .ok (.map (some w.heap.size)) (w.alloc (.map #[] 0)) := by
  simp [Instr.makeMap, run_underlying Yba.underlying39, go_sem]

set_option maxHeartbeats 4000000 in
set_option maxRecDepth 100000 in
theorem segP {u2 u3 u4 u7 u8 u9 u10 u11 u12 u13 u14 u15 u16 u17 u18 u19 u20 u21 u22 u23 u24 u25 u26 u27 u28 u29 u30 u31 u32 u33 u34 u35 u36 u37 u38 u39 u40 u41 u42 u43 u44 u45 u46 u47 u48 u49 u50 u51 u52 u53 u54 u55 u56 u57 u58 u59 u60 u61 u62 u63 u64 u65 u66 u67 u68 u69 u70 u71 u72 u73 u74 u75 u76 u77 u78 u79 u80 u81 u82 u83 u84 u85 u86 u87 u88 u89 u90 u91 u92 u93 u94 u95 u96 u97 u98 u99 u100 u101 u102 u103 u104 u105 u106 u107 u108 u109 u110 u111 u112 u113 u114 u115 u116 u117 u118 u119 u120 u121 u122 u123 u124 u125 u126 u127 u128 u129 u130 u131 u132 u133 u134 u135 u136 u137 u138 u139 u140 u141 u142 u143 u144 u145 u146 u147 u148 u149 u150 u151 u152 u153 u154 u155 u156 u157 u158 u159 u160 u161 u162 u163 u164 u165 u166 u167 u168 u169 u170 u171 u172 u173 u174 u175 u176 u177 u178 u179 u180 u181 u182 u183 u184 u185 u186 u187 u188 u189 u190 u191 u192 u193 u194 u195 u196 u197 u198 u199 u200 u201 u202 u203 u204 u205 u206 u207 u208 u209 u210 u211 u212 u213 : Value} (pick : Int) (a : Option Addr) (n c g bb off : Nat) (Z : Nat → Nat) (W w : World) (hp0 : 0 ≤ pick) (hp1 : pick < 18446744073709551616) (hn : n ≤ 65536) (hb : Below W.heap.size W w) (hW : W.heap.size ≤ g) (hsz : w.heap.size = g + n + 2)
    (hbb : 0 < n → bb < W.heap.size) (ha : 0 < n → a = some ⟨bb, off, none⟩) (hZ : ∀ i, i < n → w.cell? ⟨bb, off + i, none⟩ = some (.int .u8 (Z i : Nat))) (hZ2 : ∀ i, i < n → Z i < 256)
    (htx : ∀ i, i < n + 1 → w.cell? ⟨g, i, none⟩ = some (key g i)) (hmi : ∀ i, i < n + 1 → Mine w (g + 1 + i)) :
    Code.wp Yba.prog (dropSeq 5 (Yba.f3.body.getD .skip)) (bodyPost Yba.prog Yba.f3 (fun e w' => e = .returned (.bool true) ∧ Below W.heap.size W w'))
      ⟨(List.toArray (.slice a n c :: .int .u64 pick :: u2 :: u3 :: u4 :: .int .i64 n :: .slice (some ⟨g, 0, none⟩) (n + 1) (n + 1) :: u7 :: u8 :: u9 :: u10 :: u11 :: u12 :: u13 :: u14 :: u15 :: u16 :: u17 :: u18 :: u19 :: u20 :: u21 :: u22 :: u23 :: u24 :: u25 :: u26 :: u27 :: u28 :: u29 :: u30 :: u31 :: u32 :: u33 :: u34 :: u35 :: u36 :: u37 :: u38 :: u39 :: u40 :: u41 :: u42 :: u43 :: u44 :: u45 :: u46 :: u47 :: u48 :: u49 :: u50 :: u51 :: u52 :: u53 :: u54 :: u55 :: u56 :: u57 :: u58 :: u59 :: u60 :: u61 :: u62 :: u63 :: u64 :: u65 :: u66 :: u67 :: u68 :: u69 :: u70 :: u71 :: u72 :: u73 :: u74 :: u75 :: u76 :: u77 :: u78 :: u79 :: u80 :: u81 :: u82 :: u83 :: u84 :: u85 :: u86 :: u87 :: u88 :: u89 :: u90 :: u91 :: u92 :: u93 :: u94 :: u95 :: u96 :: u97 :: u98 :: u99 :: u100 :: u101 :: u102 :: u103 :: u104 :: u105 :: u106 :: u107 :: u108 :: u109 :: u110 :: u111 :: u112 :: u113 :: u114 :: u115 :: u116 :: u117 :: u118 :: u119 :: u120 :: u121 :: u122 :: u123 :: u124 :: u125 :: u126 :: u127 :: u128 :: u129 :: u130 :: u131 :: u132 :: u133 :: u134 :: u135 :: u136 :: u137 :: u138 :: u139 :: u140 :: u141 :: u142 :: u143 :: u144 :: u145 :: u146 :: u147 :: u148 :: u149 :: u150 :: u151 :: u152 :: u153 :: u154 :: u155 :: u156 :: u157 :: u158 :: u159 :: u160 :: u161 :: u162 :: u163 :: u164 :: u165 :: u166 :: u167 :: u168 :: u169 :: u170 :: u171 :: u172 :: u173 :: u174 :: u175 :: u176 :: u177 :: u178 :: u179 :: u180 :: u181 :: u182 :: u183 :: u184 :: u185 :: u186 :: u187 :: u188 :: u189 :: u190 :: u191 :: u192 :: u193 :: u194 :: u195 :: u196 :: u197 :: u198 :: u199 :: u200 :: u201 :: u202 :: u203 :: u204 :: u205 :: u206 :: u207 :: u208 :: u209 :: u210 :: u211 :: u212 :: u213 :: [])), []⟩ w := by
  conv => arg 2; whnf
  have HB := hid hb
  have HZ := hid hZ
  have HZ2 := hid hZ2
  have HTX := hid htx
  have HMI := hid hmi
  have HA := hid ha
  have b1 : (0 : Int) < (n : Int) + 1 := by omega
  have bw : IntKind.i64.wrap ((n : Int) + 1) = (n : Int) + 1 := by rw [IntKind.wrap_i64]; omega
  have hmk := mk38 n hn
  have hmm := mm_run ((n : Int) + 1)
  have e0 := htx 0 (by omega)
  clear hb hZ hZ2 htx hmi ha
  go_upto_region 12 with fail
  have hbw : Below w.heap.size w ((w.alloc (.cells ((Array.replicate (n + 1) (Value.int .i64 0)).setIfInBounds 0 (.int .i64 (-1))) 3)).alloc (.map #[] 0)) := ((Below.refl _ _).alloc (Nat.le_refl _) _).alloc (by simp) _
  have hg1 : ((w.alloc (.cells ((Array.replicate (n + 1) (Value.int .i64 0)).setIfInBounds 0 (.int .i64 (-1))) 3)).alloc (.map #[] 0)).heap[g + n + 2]? = some (.cells ((Array.replicate (n + 1) (Value.int .i64 0)).setIfInBounds 0 (.int .i64 (-1))) 3 (0, 0)) := by
    rw [Below.heap_alloc _ _ _ (by simp; omega), ← hsz]; exact heap_alloc_new _ _
  have hg2 : ((w.alloc (.cells ((Array.replicate (n + 1) (Value.int .i64 0)).setIfInBounds 0 (.int .i64 (-1))) 3)).alloc (.map #[] 0)).heap[g + n + 2 + 1]? = some (.map #[] 0) := by
    have h := heap_alloc_new (w.alloc (.cells ((Array.replicate (n + 1) (Value.int .i64 0)).setIfInBounds 0 (.int .i64 (-1))) 3)) (.map #[] 0)
    simpa [hsz] using h
  generalize ((w.alloc (.cells ((Array.replicate (n + 1) (Value.int .i64 0)).setIfInBounds 0 (.int .i64 (-1))) 3)).alloc (.map #[] 0)) = w1 at *
  have pt : Pt w1 g (g + n + 2) (g + n + 2 + 1) n 0 (par Z) :=
    ⟨fun i hi => cell_later hbw (HTX.out i hi), fun i hi => mine_later (HMI.out i hi) hbw, ⟨(List.replicate (n + 1) (Value.int .i64 0)).set 0 (.int .i64 (-1)), by rw [hg1]; exact congrArg (fun x => some (Obj.cells x 3 (0, 0))) (Array.ext' (by simp)), by simp, by simp, fun i h0 hi => absurd hi (Nat.not_lt_zero _)⟩, hg2⟩
  have hZ1 : ∀ i, i < n → w1.cell? ⟨bb, off + i, none⟩ = some (.int .u8 (Z i : Nat)) := fun i hi => cell_later hbw (HZ.out i hi)
  have HZ1 := hid hZ1
  have HB1 := hid (HB.out.trans (hbw.mono HB.out.size))
  have e1 := cell_later hbw e0
  have hu : (Instr.mapUpdate 39 (.map (some (g + n + 2 + 1))) (key g 0) (.pointer none)).run Yba.prog w1 = .ok () (grow w1 (g + n + 2 + 1) g (par Z) 0) := update_run (m := n + 1) pt.mine (by omega) pt.map _ rfl
  have hp1' := pt.grow (fun h => absurd h (Nat.lt_irrefl _))
  have HP := hid hp1'
  have HB2 := hid (grow_below (gm := g + n + 2 + 1) (g := g) (p := par Z) (k := 0) HB1.out (by omega))
  have HZ3 : Hid (∀ i, i < n → (grow w1 (g + n + 2 + 1) g (par Z) 0).cell? ⟨bb, off + i, none⟩ = some (.int .u8 (Z i : Nat))) := hid (fun i hi => grow_cell (HZ1.out i hi) pt.map)
  clear hbw hg1 hg2 hmk hmm e0 pt hZ1 hp1'
  go_wp2
  generalize grow w1 (g + n + 2 + 1) g (par Z) 0 = w2 at *
  clear HZ1 HB1 HZ HB HTX HMI hu e1
  go_loopw [10] (fun kv wr => ∃ k : Nat, 1 ≤ k ∧ k ≤ n + 1 ∧ kv = .int .i64 k ∧ Pt wr g (g + n + 2) (g + n + 2 + 1) n k (par Z) ∧ (∀ i, i < n → wr.cell? ⟨bb, off + i, none⟩ = some (.int .u8 (Z i : Nat))) ∧ Below W.heap.size W wr) (fun kv _ => n + 1 - (intOf kv).toNat)
  case atStart => exact ⟨1, Nat.le_refl _, by omega, rfl, HP.out, HZ3.out, HB2.out⟩
  case round =>
    clear HP HB2 HZ3
    obtain ⟨k, hk1, hk, rfl, hpt, hZ, hbw⟩ := hrel
    by_cases hkn : k ≤ n
    · obtain ⟨q, rfl⟩ : ∃ q, k = q + 1 := ⟨k - 1, by omega⟩
      have ez := hZ q (by omega)
      have hz2 := HZ2.out q (by omega)
      obtain rfl := HA.out (by omega)
      have b3 : ((q + 1 : Nat) : Int) ≤ (n : Int) := by omega
      have b4 : (0 : Int) ≤ (q : Int) := by omega
      have b5 : (q : Int) < (n : Int) := by omega
      have b6 : ¬ ((q : Int) + 1 = 0) := by omega
      have bu : IntKind.u64.wrap ((q : Int) + 1) = (q : Int) + 1 := by rw [IntKind.wrap_u64]; omega
      have bi : IntKind.i64.wrap (((q : Int) + 1) - 1) = (q : Int) := by rw [IntKind.wrap_i64]; omega
      have HPT := hid hpt
      have HZR := hid hZ
      have HBW := hid hbw
      clear hpt hZ hbw
      go_upto_region 17 with fail
      have hpe := par_eq Z q (by omega)
      rw [hpe]
      have hpl := par_lt Z (q + 1) (by omega)
      obtain ⟨v0, hv0, hf0⟩ : ∃ v, wr.cell? ⟨g + n + 2, q + 1, none⟩ = some v ∧ wr.frozen? ⟨g + n + 2, q + 1, none⟩ = false := by
        obtain ⟨cur, h1, h2, _⟩ := HPT.out.par
        have hl : q + 1 < cur.length := by omega
        exact ⟨cur[q + 1], by rw [cell_of_row wr _ _ _ _ _ h1]; simp [hl], frozen_of_row wr _ _ _ _ h1⟩
      clear ez hpe
      go_upto_region 18 with fail
      have hset := HPT.out.set (k := q + 1) (by omega) (by omega) (fun i hi => by omega) (.int .i64 ((par Z (q + 1) : Nat) : Int))
      have hZs : ∀ i, i < n → (wr.setCell ⟨g + n + 2, q + 1, none⟩ (.int .i64 ((par Z (q + 1) : Nat) : Int))).cell? ⟨bb, off + i, none⟩ = some (.int .u8 (Z i : Nat)) := fun i hi => by
        have := hbb (by omega)
        rw [World.cell?_of_block (w := wr) (heap_setCell_other _ _ _ _ (by simp; omega))]
        exact HZR.out i hi
      have hbs := HBW.out.setCell (show W.heap.size ≤ (⟨g + n + 2, q + 1, none⟩ : Addr).block by simp; omega) (.int .i64 ((par Z (q + 1) : Nat) : Int))
      generalize wr.setCell ⟨g + n + 2, q + 1, none⟩ (.int .i64 ((par Z (q + 1) : Nat) : Int)) = w3 at *
      obtain ⟨hp3, hc3⟩ := hset
      have t1 := hp3.tx (q + 1) (by omega)
      have t2 := hp3.tx (par Z (q + 1)) (by omega)
      have b7 : (0 : Int) ≤ ((par Z (q + 1) : Nat) : Int) := by omega
      have b8 : ((par Z (q + 1) : Nat) : Int) < (n : Int) + 1 := by omega
      have b9 : ((q + 1 : Nat) : Int) < (n : Int) + 1 := by omega
      have b10 : (0 : Int) ≤ ((q + 1 : Nat) : Int) := by omega
      have b11 : (0 : Int) ≤ (q : Int) + 1 := by omega
      have b12 : (q : Int) + 1 < (n : Int) + 1 := by omega
      have b13 : ((q : Int) + 1).toNat = q + 1 := by omega
      have hu : (Instr.mapUpdate 39 (.map (some (g + n + 2 + 1))) (key g (q + 1)) (key g (par Z (q + 1)))).run Yba.prog w3.drew = .ok () (grow w3.drew (g + n + 2 + 1) g (par Z) (q + 1)) :=
        update_run (m := n + 1) (w := w3.drew) hp3.mine (by omega) hp3.map _ (by simp [val])
      have HP4 := hid (Pt.grow (w := w3.drew) (k := q + 1) (p := par Z) ⟨hp3.tx, hp3.mine, hp3.par, hp3.map⟩ (fun _ cur hcur => hc3 cur hcur (by omega)))
      have HB4 := hid (grow_below (gm := g + n + 2 + 1) (g := g) (p := par Z) (k := q + 1) hbs.drew (by omega))
      have HZ4 : Hid (∀ i, i < n → (grow w3.drew (g + n + 2 + 1) g (par Z) (q + 1)).cell? ⟨bb, off + i, none⟩ = some (.int .u8 (Z i : Nat))) := hid (fun i hi => grow_cell (w := w3.drew) (hZs i hi) hp3.map)
      have t3 := grow_cell (w := w3.drew) (g := g) (p := par Z) (k := q + 1) t1 hp3.map
      have t4 := grow_cell (w := w3.drew) (g := g) (p := par Z) (k := q + 1) t2 hp3.map
      clear hp3 hc3 hZs hbs HPT HZR HBW hv0 hf0
      go_region_held3 (fun w' => w'.cell? ⟨g, q + 1, none⟩ = some (key g (q + 1)) ∧ w'.cell? ⟨g, par Z (q + 1), none⟩ = some (key g (par Z (q + 1)))) (go_keep) (fail)
      go_wp2
      exact ⟨⟨q + 1 + 1, by omega, by omega, by go_num, HP4.out, HZ4.out, HB4.out⟩, by simp [intOf]; omega⟩
    · obtain rfl : k = n + 1 := by omega
      have b3 : ¬ (((n + 1 : Nat) : Int) ≤ (n : Int)) := by omega
      have HPT := hid hpt
      have HBW := hid hbw
      clear hpt hZ hbw
      go_upto_if 55 with fail
      go_step
      go_step
      go_step
      go_step
      go_step
      go_step
      exact segB pick n g (g + n + 2) (g + n + 2 + 1) (par Z) W wr hp0 hp1 hn HBW.out (HPT.out.done fun i h0 _ => par_lt Z i h0)

end Go.Proofs.Ybulkebjk
