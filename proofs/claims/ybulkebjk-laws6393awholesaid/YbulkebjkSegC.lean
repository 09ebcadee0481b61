import Derived.Test.YbulkebjkSegD
namespace Go.Proofs.Ybulkebjk
open Go.RowKit
set_option linter.unusedVariables false

set_option maxHeartbeats 4000000 in
set_option maxRecDepth 100000 in
theorem segC {u0 u1 u2 u3 u4 u7 u9 u10 u11 u13 u16 u17 u18 u19 u20 u21 u22 u23 u24 u25 u26 u27 u28 u29 u30 u31 u32 u33 u34 u35 u36 u37 u38 u39 u40 u41 u42 u43 u44 u45 u46 u47 u48 u49 u50 u51 u52 u53 u54 u55 u56 u57 u58 u59 u60 u61 u62 u63 u64 u65 u66 u67 u68 u69 u70 u71 u72 u73 u74 u75 u76 u77 u78 u79 u80 u81 u82 u83 u84 u85 u86 u87 u88 u89 u90 u91 u92 u93 u94 u95 u96 u97 u98 u99 u100 u101 u102 u103 u104 u105 u106 u107 u108 u109 u110 u111 u112 u113 u114 u115 u116 u117 u118 u119 u120 u121 u122 u123 u124 u125 u126 u127 u128 u129 u130 u131 u132 u133 u134 u135 u136 u137 u138 u139 u140 u141 u142 u143 u144 u145 u146 u147 u148 u149 u150 u151 u152 u153 u154 u155 u156 u157 u158 u159 u160 u161 u162 u163 u164 u165 u166 u167 u168 u169 u170 u171 u172 u173 u174 u175 u176 u177 u178 u179 u180 u181 u182 u183 u184 u185 u186 u187 u188 u189 u190 u191 u192 u193 u194 u195 u196 u197 u198 u199 u200 u201 u202 u203 u204 u205 u206 u207 u208 u209 u210 u211 u212 u213 : Value} (n g gp gm gs : Nat) (p : Nat → Nat) (W w : World) (hn : n ≤ 65536) (hb : Below W.heap.size W w) (hs : St w g gp gm n p) (k0 : w.cell? ⟨gs, 0, none⟩ = some (.pointer none)) (k1 : w.cell? ⟨gs, 1, none⟩ = some (key g 0)) (k2 : w.cell? ⟨gs, 2, none⟩ = some (.map (some gm))) (k3 : w.cell? ⟨gs, 3, none⟩ = some (.slice none 0 0)) (ch : List Nat) (b cb d cd : Nat) (hl : ch.length ≤ 65537) (hle : ∀ x ∈ ch, x ≤ n) (hG : ∀ i, i < ch.length → w.cell? ⟨b, i, none⟩ = some (key g (ch.getD i 0))) (hD : ∀ i, i < ch.length → w.cell? ⟨d, i, none⟩ = some (.int .i64 (ch.getD i 0 : Nat))) :
    Code.wp Yba.prog (dropSeq 16 (Yba.f3.body.getD .skip)) (bodyPost Yba.prog Yba.f3 (fun e w' => e = .returned (.bool true) ∧ Below W.heap.size W w'))
      ⟨(List.toArray (u0 :: u1 :: u2 :: u3 :: u4 :: .int .i64 n :: .slice (some ⟨g, 0, none⟩) (n + 1) (n + 1) :: u7 :: .slice (some ⟨gp, 0, none⟩) (n + 1) (n + 1) :: u9 :: u10 :: u11 :: .pointer (some ⟨gs, 0, none⟩) :: u13 :: .slice (some ⟨b, 0, none⟩) ch.length cb :: .slice (some ⟨d, 0, none⟩) ch.length cd :: u16 :: u17 :: u18 :: u19 :: u20 :: u21 :: u22 :: u23 :: u24 :: u25 :: u26 :: u27 :: u28 :: u29 :: u30 :: u31 :: u32 :: u33 :: u34 :: u35 :: u36 :: u37 :: u38 :: u39 :: u40 :: u41 :: u42 :: u43 :: u44 :: u45 :: u46 :: u47 :: u48 :: u49 :: u50 :: u51 :: u52 :: u53 :: u54 :: u55 :: u56 :: u57 :: u58 :: u59 :: u60 :: u61 :: u62 :: u63 :: u64 :: u65 :: u66 :: u67 :: u68 :: u69 :: u70 :: u71 :: u72 :: u73 :: u74 :: u75 :: u76 :: u77 :: u78 :: u79 :: u80 :: u81 :: u82 :: u83 :: u84 :: u85 :: u86 :: u87 :: u88 :: u89 :: u90 :: u91 :: u92 :: u93 :: u94 :: u95 :: u96 :: u97 :: u98 :: u99 :: u100 :: u101 :: u102 :: u103 :: u104 :: u105 :: u106 :: u107 :: u108 :: u109 :: u110 :: u111 :: u112 :: u113 :: u114 :: u115 :: u116 :: u117 :: u118 :: u119 :: u120 :: u121 :: u122 :: u123 :: u124 :: u125 :: u126 :: u127 :: u128 :: u129 :: u130 :: u131 :: u132 :: u133 :: u134 :: u135 :: u136 :: u137 :: u138 :: u139 :: u140 :: u141 :: u142 :: u143 :: u144 :: u145 :: u146 :: u147 :: u148 :: u149 :: u150 :: u151 :: u152 :: u153 :: u154 :: u155 :: u156 :: u157 :: u158 :: u159 :: u160 :: u161 :: u162 :: u163 :: u164 :: u165 :: u166 :: u167 :: u168 :: u169 :: u170 :: u171 :: u172 :: u173 :: u174 :: u175 :: u176 :: u177 :: u178 :: u179 :: u180 :: u181 :: u182 :: u183 :: u184 :: u185 :: u186 :: u187 :: u188 :: u189 :: u190 :: u191 :: u192 :: u193 :: u194 :: u195 :: u196 :: u197 :: u198 :: u199 :: u200 :: u201 :: u202 :: u203 :: u204 :: u205 :: u206 :: u207 :: u208 :: u209 :: u210 :: u211 :: u212 :: u213 :: [])), []⟩ w := by
  conv => arg 2; whnf
  have HB := hid hb
  have HS := hid hs
  have K0 := hid k0
  have K1 := hid k1
  have K2 := hid k2
  have K3 := hid k3
  have HG := hid hG
  have HD := hid hD
  have HLE := hid hle
  clear hb hs k0 k1 k2 k3 hG hD hle
  go_wp2
  go_loopw [17] (fun i wr => ∃ k : Nat, k ≤ ch.length ∧ i = .int .i64 k ∧ Below w.heap.size w wr) (fun i _ => ch.length - (intOf i).toNat)
  case atStart => exact ⟨0, Nat.zero_le _, rfl, Below.refl _ _⟩
  case round =>
    obtain ⟨k, hk, rfl, hbw⟩ := hrel
    by_cases hkn : k < ch.length
    · have hs := HS.out.later hbw
      have e1 := cell_later hbw (HG.out k hkn)
      have e2 := cell_later hbw (HD.out k hkn)
      have hx : ch.getD k 0 ≤ n := HLE.out _ (by simp [List.getD_eq_getElem?_getD, hkn])
      generalize ch.getD k 0 = x at *
      have e3 := hs.tx x (by omega)
      have b1 : (0 : Int) ≤ (k : Int) := by omega
      have b2 : (k : Int) < (ch.length : Int) := by omega
      have b4 : (0 : Int) ≤ (x : Int) := by omega
      have b5 : (x : Int) < (n : Int) + 1 := by omega
      have hq : ∀ m, (binOp .neq 25 (key g x) (key g x)).run Yba.prog (wr.drewN m) = .ok (.bool false) (wr.drewN m) := fun m => by
        have h := neqp (w := wr.drewN m) (hs.mine x (by omega)) (hs.mine x (by omega))
        simpa using h
      have HBW := hid hbw
      clear hs hbw hx
      go_wp2
      go_quiet (fail)
      go_wp2
      exact ⟨⟨k + 1, by omega, by go_num, quiet_below _ _ HBW.out _⟩, by simp [intOf]; omega⟩
    · have b3 : ¬ (k : Int) < (ch.length : Int) := by omega
      have HBW := hid hbw
      clear hbw
      go_upto_if 122 with fail
      go_step
      go_step
      go_step
      go_step
      go_step
      go_step
      exact segD n g gp gm gs p W wr hn (HB.out.trans (HBW.out.mono HB.out.size)) (HS.out.later HBW.out) (cell_later HBW.out K0.out) (cell_later HBW.out K1.out) (cell_later HBW.out K2.out) (cell_later HBW.out K3.out)

end Go.Proofs.Ybulkebjk
