import Derived.Test.YbulkebjkSegC
namespace Go.Proofs.Ybulkebjk
open Go.RowKit
set_option linter.unusedVariables false

theorem Yba.info3 : (Yba.prog.info? 3).map (fun i => (i.zero, i.size, i.bytes)) = some (some (.int .i64 0), 1, 8) := by kernel_rfl

theorem own_cell {w : World} {B b m cap : Nat} {e : TypeId} {xs : List Nat} {f : Nat → Value} (h : w.ownsRow B e 1 (.slice (some ⟨b, 0, none⟩) m cap) m (xs.map f)) : ∀ i, i < xs.length → w.cell? ⟨b, i, none⟩ = some (f (xs.getD i 0)) := fun i hi => by
  have := h.cells (g := b) rfl i (f (xs.getD i 0)) (by simp [hi])
  rw [Addr.add_lit] at this
  simpa using this

theorem own_int (w : World) (B : Nat) (hB : B ≤ w.heap.size) : (w.alloc (.cells #[.int .i64 0] 3)).ownsRow B 3 1 (.slice (some ⟨w.heap.size, 0, none⟩) 1 1) 1 ([0].map fun x : Nat => Value.int .i64 (x : Int)) :=
  ⟨rfl, Or.inr ⟨w.heap.size, 1, _, rfl, hB, heap_alloc_new _ _, Nat.le_refl _, by decide, rfl, rfl⟩⟩

set_option maxHeartbeats 4000000 in
set_option maxRecDepth 100000 in
theorem segB {u0 u2 u3 u4 u7 u10 u11 u12 u13 u14 u15 u16 u17 u18 u19 u20 u21 u22 u23 u24 u25 u26 u27 u28 u29 u30 u31 u32 u33 u34 u35 u36 u37 u38 u39 u40 u41 u42 u43 u44 u45 u46 u47 u48 u49 u50 u51 u52 u53 u54 u55 u56 u57 u58 u59 u60 u61 u62 u63 u64 u65 u66 u67 u68 u69 u70 u71 u72 u73 u74 u75 u76 u77 u78 u79 u80 u81 u82 u83 u84 u85 u86 u87 u88 u89 u90 u91 u92 u93 u94 u95 u96 u97 u98 u99 u100 u101 u102 u103 u104 u105 u106 u107 u108 u109 u110 u111 u112 u113 u114 u115 u116 u117 u118 u119 u120 u121 u122 u123 u124 u125 u126 u127 u128 u129 u130 u131 u132 u133 u134 u135 u136 u137 u138 u139 u140 u141 u142 u143 u144 u145 u146 u147 u148 u149 u150 u151 u152 u153 u154 u155 u156 u157 u158 u159 u160 u161 u162 u163 u164 u165 u166 u167 u168 u169 u170 u171 u172 u173 u174 u175 u176 u177 u178 u179 u180 u181 u182 u183 u184 u185 u186 u187 u188 u189 u190 u191 u192 u193 u194 u195 u196 u197 u198 u199 u200 u201 u202 u203 u204 u205 u206 u207 u208 u209 u210 u211 u212 u213 : Value} (pick : Int) (n g gp gm : Nat) (p : Nat → Nat) (W w : World) (hp0 : 0 ≤ pick) (hp1 : pick < 18446744073709551616) (hn : n ≤ 65536) (hb : Below W.heap.size W w) (hs : St w g gp gm n p) :
    Code.wp Yba.prog (dropSeq 10 (Yba.f3.body.getD .skip)) (bodyPost Yba.prog Yba.f3 (fun e w' => e = .returned (.bool true) ∧ Below W.heap.size W w'))
      ⟨(List.toArray (u0 :: .int .u64 pick :: u2 :: u3 :: u4 :: .int .i64 n :: .slice (some ⟨g, 0, none⟩) (n + 1) (n + 1) :: u7 :: .slice (some ⟨gp, 0, none⟩) (n + 1) (n + 1) :: .map (some gm) :: u10 :: u11 :: u12 :: u13 :: u14 :: u15 :: u16 :: u17 :: u18 :: u19 :: u20 :: u21 :: u22 :: u23 :: u24 :: u25 :: u26 :: u27 :: u28 :: u29 :: u30 :: u31 :: u32 :: u33 :: u34 :: u35 :: u36 :: u37 :: u38 :: u39 :: u40 :: u41 :: u42 :: u43 :: u44 :: u45 :: u46 :: u47 :: u48 :: u49 :: u50 :: u51 :: u52 :: u53 :: u54 :: u55 :: u56 :: u57 :: u58 :: u59 :: u60 :: u61 :: u62 :: u63 :: u64 :: u65 :: u66 :: u67 :: u68 :: u69 :: u70 :: u71 :: u72 :: u73 :: u74 :: u75 :: u76 :: u77 :: u78 :: u79 :: u80 :: u81 :: u82 :: u83 :: u84 :: u85 :: u86 :: u87 :: u88 :: u89 :: u90 :: u91 :: u92 :: u93 :: u94 :: u95 :: u96 :: u97 :: u98 :: u99 :: u100 :: u101 :: u102 :: u103 :: u104 :: u105 :: u106 :: u107 :: u108 :: u109 :: u110 :: u111 :: u112 :: u113 :: u114 :: u115 :: u116 :: u117 :: u118 :: u119 :: u120 :: u121 :: u122 :: u123 :: u124 :: u125 :: u126 :: u127 :: u128 :: u129 :: u130 :: u131 :: u132 :: u133 :: u134 :: u135 :: u136 :: u137 :: u138 :: u139 :: u140 :: u141 :: u142 :: u143 :: u144 :: u145 :: u146 :: u147 :: u148 :: u149 :: u150 :: u151 :: u152 :: u153 :: u154 :: u155 :: u156 :: u157 :: u158 :: u159 :: u160 :: u161 :: u162 :: u163 :: u164 :: u165 :: u166 :: u167 :: u168 :: u169 :: u170 :: u171 :: u172 :: u173 :: u174 :: u175 :: u176 :: u177 :: u178 :: u179 :: u180 :: u181 :: u182 :: u183 :: u184 :: u185 :: u186 :: u187 :: u188 :: u189 :: u190 :: u191 :: u192 :: u193 :: u194 :: u195 :: u196 :: u197 :: u198 :: u199 :: u200 :: u201 :: u202 :: u203 :: u204 :: u205 :: u206 :: u207 :: u208 :: u209 :: u210 :: u211 :: u212 :: u213 :: [])), []⟩ w := by
  conv => arg 2; whnf
  have HB := hid hb
  have HS := hid hs
  have e0 := hs.tx 0 (by omega)
  have b1 : (0 : Int) < (n : Int) + 1 := by omega
  clear hb hs
  have bw : IntKind.i64.wrap ((n : Int) + 1) = (n : Int) + 1 := by rw [IntKind.wrap_i64]; omega
  have bu : IntKind.u64.wrap ((n : Int) + 1) = (n : Int) + 1 := by rw [IntKind.wrap_u64]; omega
  have bz : ¬ ((n : Int) + 1 = 0) := by omega
  obtain ⟨j, hj, hje⟩ : ∃ j : Nat, j ≤ n ∧ wrap64 (pick % ((n : Int) + 1)) = (j : Int) := by
    have h1 := Int.emod_nonneg pick bz
    have h2 := Int.emod_lt_of_pos pick b1
    refine ⟨(pick % ((n : Int) + 1)).toNat, by omega, ?_⟩
    generalize pick % ((n : Int) + 1) = x at *
    unfold wrap64
    omega
  go_upto_region 21 with fail
  rw [hje]
  have hb1 : Below w.heap.size w (w.alloc (.cells #[.pointer none, key g 0, .map (some gm), .slice none 0 0] 43)) := (Below.refl _ _).alloc (Nat.le_refl _) _
  have hs1 := HS.out.later hb1
  have hbw1 := HB.out.trans (hb1.mono HB.out.size)
  have k0 : (w.alloc (.cells #[.pointer none, key g 0, .map (some gm), .slice none 0 0] 43)).cell? ⟨w.heap.size, 0, none⟩ = some (.pointer none) := by rw [cell_of_row _ w.heap.size _ _ _ _ (heap_alloc_new _ _)]; rfl
  have k1 : (w.alloc (.cells #[.pointer none, key g 0, .map (some gm), .slice none 0 0] 43)).cell? ⟨w.heap.size, 1, none⟩ = some (key g 0) := by rw [cell_of_row _ w.heap.size _ _ _ _ (heap_alloc_new _ _)]; rfl
  have k2 : (w.alloc (.cells #[.pointer none, key g 0, .map (some gm), .slice none 0 0] 43)).cell? ⟨w.heap.size, 2, none⟩ = some (.map (some gm)) := by rw [cell_of_row _ w.heap.size _ _ _ _ (heap_alloc_new _ _)]; rfl
  have k3 : (w.alloc (.cells #[.pointer none, key g 0, .map (some gm), .slice none 0 0] 43)).cell? ⟨w.heap.size, 3, none⟩ = some (.slice none 0 0) := by rw [cell_of_row _ w.heap.size _ _ _ _ (heap_alloc_new _ _)]; rfl
  generalize (w.alloc (.cells #[.pointer none, key g 0, .map (some gm), .slice none 0 0] 43)) = w1 at *
  generalize w.heap.size = gs at *
  have HK0 := hid k0
  have HK1 := hid k1
  have HK2 := hid k2
  have HK3 := hid k3
  have HS1 := hid hs1
  have HB1 := hid hbw1
  have ej := hs1.tx j (by omega)
  have b2 : (0 : Int) ≤ (j : Int) := by omega
  have b3 : (j : Int) < (n : Int) + 1 := by omega
  clear hb1 hs1 hbw1 HS HB k0 k1 k2 k3 hje e0
  go_wp2_with fail
  refine (path_any gs g gm n (n + 1) j p w1 HK1.out HK2.out HS1.out.mine HS1.out.map HS1.out.lt hj hn).mono ?_
  rintro e wx ⟨b, cb, rfl, hown, hbx⟩
  have HLEN : Hid ((0 :: up p j j).length ≤ 65537) := hid (by have := up_len HS1.out.lt j j (Nat.le_refl _) hj; simp; omega)
  have HLE : Hid (∀ x ∈ 0 :: up p j j, x ≤ n) := hid (fun x hx => by
    rcases List.mem_cons.1 hx with rfl | hx
    · exact Nat.zero_le _
    · exact Nat.le_trans (up_mem HS1.out.lt j j (Nat.le_refl _) hj x hx) hj)
  obtain ⟨ch, hch⟩ : ∃ ch, ch = 0 :: up p j j := ⟨_, rfl⟩
  rw [← hch] at hown HLEN HLE ⊢
  have HCH := hid hch
  have HO := hid hown
  have HX := hid hbx
  clear hch hown hbx ej
  obtain ⟨i0, hi, hz0, hz1, hz2⟩ := info_parts Yba.info3
  go_wp2
  go_loopw [15, 16] (fun cv jv wr => ∃ (i : Nat) (xs : List Nat) (d cap : Nat), i ≤ n ∧ cv = .slice (some ⟨d, 0, none⟩) xs.length cap ∧ jv = .int .i64 i ∧ xs ++ up p i i = ch ∧
    wr.ownsRow wx.heap.size 3 1 (.slice (some ⟨d, 0, none⟩) xs.length cap) xs.length (xs.map fun x : Nat => Value.int .i64 (x : Int)) ∧ Below wx.heap.size wx wr) (fun cv jv wr => (intOf jv).toNat)
  case atStart => exact ⟨j, [0], _, _, hj, rfl, rfl, by rw [HCH.out]; rfl, own_int wx wx.heap.size (Nat.le_refl _), (Below.refl _ _).alloc (Nat.le_refl _) _⟩
  case round =>
    obtain ⟨i, xs, d, cap, hin, rfl, rfl, hxs, hown, hbw⟩ := hrel
    have hbr : Below w1.heap.size w1 wr := HX.out.trans (hbw.mono HX.out.size)
    have hs := HS1.out.later hbr
    by_cases h0 : i = 0
    · subst h0
      have HXS := hid hxs
      have HOW := hid hown
      have HBW := hid hbw
      have HBR := hid hbr
      have HSR := hid hs
      clear hxs hown hbw hbr hs
      go_upto_if 105 with fail
      go_step
      go_step
      go_step
      go_step
      go_step
      go_step
      have e : xs = ch := by have := HXS.out; simpa [up] using this
      subst e
      exact segC n g gp gm gs p W wr hn (HB1.out.trans (HBR.out.mono HB1.out.size)) HSR.out (cell_later HBR.out HK0.out) (cell_later HBR.out HK1.out) (cell_later HBR.out HK2.out) (cell_later HBR.out HK3.out) xs b cb d cap HLEN.out HLE.out
        (own_cell (own_later HO.out HBW.out)) (own_cell HOW.out)
    · have hlt : xs.length < 65537 := by
        have h1 := HLEN.out
        rw [← hxs, up_step HS1.out.lt (by omega) hin] at h1
        simp at h1; omega
      have c1 : (0 : Int) ≤ (i : Int) := by omega
      have c2 : (i : Int) < (n : Int) + 1 := by omega
      have c3 : ¬ ((i : Int) = 0) := by omega
      have hpi := HS1.out.lt i (by omega) hin
      have HXS := hid hxs
      have HOW := hid hown
      have HBW := hid hbw
      clear hxs hown hbw hbr hs
      go_wp2_with (at_builtin; refine wpList_append_lies _ rfl _ _ 38 rfl (wx.heap.size) 3 i0 (.int .i64 0) 1 8 Yba.underlying38 hi hz0 hz1 hz2 rfl (by decide) (.slice (some ⟨d, 0, none⟩) xs.length cap) xs.length (xs.map fun x : Nat => Value.int .i64 (x : Int)) rfl (own_later HOW.out ((Below.refl _ _).alloc (Nat.le_refl _) _)) ⟨wr.heap.size, 0, none⟩ 1 1 [.int .i64 (i : Int)] rfl rfl (cell_one_new _ _ _) (by simp [Value.oneCell']) (by decide) (by unfold maxLen; omega) (by omega) (by have := HBW.out.size; simp; omega) (wr.heap.size + 1) (by simp) ?_)
      intro g2 cap2 w2 hown2 hgrow2 hat2 hlt2
      have hdB : wx.heap.size ≤ d := (HOW.out.lt d rfl).1
      have hb2 : Below wx.heap.size wx w2 := (HBW.out.alloc HBW.out.size _).grown hgrow2 (by have := HBW.out.size; simp; omega) (fun k hk => by simp [Value.ownBlock] at hk; omega)
      have hbr2 : Below w1.heap.size w1 w2 := HX.out.trans (hb2.mono HX.out.size)
      have d2 := (HS1.out.later hbr2).par i (by omega) (by omega)
      have HO2 := hid hown2
      have HB2 := hid hb2
      clear hown2 hgrow2 hat2 hb2 hdB hbr2
      go_wp2
      refine ⟨⟨p i, xs ++ [i], g2, cap2, by omega, by simp, rfl, ?_, ?_, HB2.out⟩, ?_⟩
      · have := HXS.out
        rw [up_step HS1.out.lt (by omega) hin] at this
        simpa using this
      · simpa using HO2.out
      · simp [intOf]; omega

end Go.Proofs.Ybulkebjk
