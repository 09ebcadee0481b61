import Derived.Test.YbulkebiwEntS
import Derived.Test.YbulkebiwSl
namespace Go.Proofs.Ybulkebiw
open Go.RowKit
set_option linter.unusedVariables false

structure Dat where
  ID : Nat → ByteArray
  AT : Nat → Int
  HM : Nat → Bool
  MO : Nat → ByteArray
  OT : Nat → Bool
  TY : Nat → Int
  OI : Nat → ByteArray
  OP : Nat → ByteArray
  OA : Nat → Int
  OL : Nat → Bool

def recCells (D : Dat) (i : Nat) : List Value := [.string (D.ID i), .int .i64 (D.AT i), .bool (D.HM i), .string (D.MO i), .bool (D.OT i), .int .u8 (D.TY i), .string (D.OI i), .string (D.OP i), .int .i64 (D.OA i), .bool (D.OL i)]

/-- The records that came in. -/
def In (w : World) (rb ro n : Nat) (D : Dat) : Prop := ∀ i, i < n → ∀ k v, (recCells D i)[k]? = some v → w.cell? ⟨rb, ro + i * 10 + k, none⟩ = some v

theorem In.later {w W : World} {rb ro n : Nat} {D : Dat} (h : In w rb ro n D) (hb : Below w.heap.size w W) : In W rb ro n D := fun i hi k v hv => cell_later hb (h i hi k v hv)

/-- The other entry of record i. -/
abbrev Ee (D : Dat) (i : Nat) (l : Option Addr) : Array Value := E14 (tyOf (D.TY i)) (D.OI i) (D.OP i) (tW (D.OA i)) (tX (D.OA i)) none l

/-- What has been built of the first j records. -/
structure Db (w : World) (gr go j : Nat) (D : Dat) (M O L : Nat → Option Addr) : Prop where
  rcd : ∀ i, i < j → RecAt w gr i (D.ID i) (tW (D.AT i)) (tX (D.AT i)) (M i) (O i)
  ent : ∀ i, i < j → D.OT i = true → ∃ b, O i = some ⟨b, 0, none⟩ ∧ w.heap[b]? = some (.cells (Ee D i (L i)) 91 (0, 0))
  oth : ∀ i, i < j → D.OT i = true → ∀ k v, (Ee D i (L i))[k]? = some v → w.cell? ⟨go, i * 14 + k, none⟩ = some v
  non : ∀ i, i < j → D.OT i = false → O i = none

theorem Db.later {w W : World} {gr go j : Nat} {D : Dat} {M O L : Nat → Option Addr} (h : Db w gr go j D M O L) (hb : Below w.heap.size w W) : Db W gr go j D M O L :=
  ⟨fun i hi => (h.rcd i hi).later hb, fun i hi ho => by
    obtain ⟨b, h1, h2⟩ := h.ent i hi ho
    exact ⟨b, h1, (hb.block _ (lt_of_block h2)).trans h2⟩, fun i hi ho k v hv => cell_later hb (h.oth i hi ho k v hv), h.non⟩

theorem pin68 (p : Option Addr) (w : World) (d : Nat) : (Op.equalIn (d + 1) 68 (.pointer p) (.pointer p)).run Yba.prog w = .ok true w := pin (by decide) p w d
theorem pin73 (p : Option Addr) (w : World) (d : Nat) : (Op.equalIn (d + 1) 73 (.pointer p) (.pointer p)).run Yba.prog w = .ok true w := pin (by decide) p w d
theorem pin83 (p : Option Addr) (w : World) (d : Nat) : (Op.equalIn (d + 1) 83 (.pointer p) (.pointer p)).run Yba.prog w = .ok true w := pin (by decide) p w d
theorem pin84 (p : Option Addr) (w : World) (d : Nat) : (Op.equalIn (d + 1) 84 (.pointer p) (.pointer p)).run Yba.prog w = .ok true w := pin (by decide) p w d
theorem pin85 (p : Option Addr) (w : World) (d : Nat) : (Op.equalIn (d + 1) 85 (.pointer p) (.pointer p)).run Yba.prog w = .ok true w := pin (by decide) p w d
theorem pin86 (p : Option Addr) (w : World) (d : Nat) : (Op.equalIn (d + 1) 86 (.pointer p) (.pointer p)).run Yba.prog w = .ok true w := pin (by decide) p w d
theorem pin87 (p : Option Addr) (w : World) (d : Nat) : (Op.equalIn (d + 1) 87 (.pointer p) (.pointer p)).run Yba.prog w = .ok true w := pin (by decide) p w d
theorem pin88 (p : Option Addr) (w : World) (d : Nat) : (Op.equalIn (d + 1) 88 (.pointer p) (.pointer p)).run Yba.prog w = .ok true w := pin (by decide) p w d
theorem pin89 (p : Option Addr) (w : World) (d : Nat) : (Op.equalIn (d + 1) 89 (.pointer p) (.pointer p)).run Yba.prog w = .ok true w := pin (by decide) p w d
attribute [local go_sem] nil74 str9 pin68 pin73 pin83 pin84 pin85 pin86 pin87 pin88 pin89

set_option maxHeartbeats 4000000 in
set_option maxRecDepth 100000 in
theorem segZ {u1 u2 u3 u4 u5 u6 u8 u10 u11 u12 u13 u14 u15 u16 u17 u18 u20 u21 u22 u23 u24 u25 u26 u27 u28 u29 u30 u31 u32 u33 u34 u35 u36 u37 u38 u39 u40 u41 u42 u43 u44 u45 u46 u47 u48 u49 u50 u51 u52 u53 u54 u55 u56 u57 u58 u59 u60 u61 u62 u63 u64 u65 u66 u67 u68 u69 u70 u71 u72 u73 u74 u75 u76 u77 u78 u79 u80 u81 u82 u83 u84 u85 u86 u87 u88 u89 u90 u91 u92 u93 u94 u95 u96 u97 u98 u99 u100 u101 u102 u103 u104 u105 u106 u107 u108 u109 u110 u111 u112 u113 u114 u115 u116 u117 u118 u119 u120 u121 u122 u123 u124 u125 u126 u127 u128 u129 u130 u131 u132 u133 u134 u135 u136 u137 u138 u139 u140 u141 u142 u143 u144 u145 u146 u147 u148 u149 u150 u151 u152 u153 u154 u155 u156 u157 u158 u159 u160 u161 u162 u163 u164 u165 u166 u167 u168 u169 u170 u171 u172 u173 u174 u175 u176 u177 u178 u179 u180 u181 u182 u183 u184 u185 u186 u187 u188 u189 u190 u191 u192 u193 u194 u195 u196 u197 u198 u199 u200 u201 u202 u203 u204 u205 u206 u207 u208 u209 u210 u211 u212 u213 u214 u215 u216 u217 u218 u219 u220 u221 u222 u223 u224 u225 u226 u227 : Value} (n rb ro rc gr go gv : Nat) (D : Dat) (M O L : Nat → Option Addr) (W w : World) (hn : n ≤ 1048576) (hb : Below W.heap.size W w) (hin : In w rb ro n D) (hd : Db w gr go n D M O L) (v0 : w.cell? ⟨gv, 0, none⟩ = some (.slice (some ⟨gr, 0, none⟩) n n)) :
    Code.wp Yba.prog (dropSeq 19 (Yba.f4.body.getD .skip)) (bodyPost Yba.prog Yba.f4 (fun e w' => e = .returned (.bool true) ∧ Below W.heap.size W w'))
      ⟨(List.toArray (.slice (some ⟨rb, ro, none⟩) n rc :: u1 :: u2 :: u3 :: u4 :: u5 :: u6 :: .int .i64 n :: u8 :: .slice (some ⟨go, 0, none⟩) n n :: u10 :: u11 :: u12 :: u13 :: u14 :: u15 :: u16 :: u17 :: u18 :: .pointer (some ⟨gv, 0, none⟩) :: u20 :: u21 :: u22 :: u23 :: u24 :: u25 :: u26 :: u27 :: u28 :: u29 :: u30 :: u31 :: u32 :: u33 :: u34 :: u35 :: u36 :: u37 :: u38 :: u39 :: u40 :: u41 :: u42 :: u43 :: u44 :: u45 :: u46 :: u47 :: u48 :: u49 :: u50 :: u51 :: u52 :: u53 :: u54 :: u55 :: u56 :: u57 :: u58 :: u59 :: u60 :: u61 :: u62 :: u63 :: u64 :: u65 :: u66 :: u67 :: u68 :: u69 :: u70 :: u71 :: u72 :: u73 :: u74 :: u75 :: u76 :: u77 :: u78 :: u79 :: u80 :: u81 :: u82 :: u83 :: u84 :: u85 :: u86 :: u87 :: u88 :: u89 :: u90 :: u91 :: u92 :: u93 :: u94 :: u95 :: u96 :: u97 :: u98 :: u99 :: u100 :: u101 :: u102 :: u103 :: u104 :: u105 :: u106 :: u107 :: u108 :: u109 :: u110 :: u111 :: u112 :: u113 :: u114 :: u115 :: u116 :: u117 :: u118 :: u119 :: u120 :: u121 :: u122 :: u123 :: u124 :: u125 :: u126 :: u127 :: u128 :: u129 :: u130 :: u131 :: u132 :: u133 :: u134 :: u135 :: u136 :: u137 :: u138 :: u139 :: u140 :: u141 :: u142 :: u143 :: u144 :: u145 :: u146 :: u147 :: u148 :: u149 :: u150 :: u151 :: u152 :: u153 :: u154 :: u155 :: u156 :: u157 :: u158 :: u159 :: u160 :: u161 :: u162 :: u163 :: u164 :: u165 :: u166 :: u167 :: u168 :: u169 :: u170 :: u171 :: u172 :: u173 :: u174 :: u175 :: u176 :: u177 :: u178 :: u179 :: u180 :: u181 :: u182 :: u183 :: u184 :: u185 :: u186 :: u187 :: u188 :: u189 :: u190 :: u191 :: u192 :: u193 :: u194 :: u195 :: u196 :: u197 :: u198 :: u199 :: u200 :: u201 :: u202 :: u203 :: u204 :: u205 :: u206 :: u207 :: u208 :: u209 :: u210 :: u211 :: u212 :: u213 :: u214 :: u215 :: u216 :: u217 :: u218 :: u219 :: u220 :: u221 :: u222 :: u223 :: u224 :: u225 :: u226 :: u227 :: [])), []⟩ w := by
  conv => arg 2; whnf
  have HB := hid hb
  have HI := hid hin
  have HD := hid hd
  have V0 := hid v0
  clear hb hin hd v0
  go_wp2
  go_loopw [24] (fun i wr => ∃ k : Nat, k ≤ n ∧ i = .int .i64 k ∧ Below w.heap.size w wr) (fun i _ => n - (intOf i).toNat)
  case atStart => exact ⟨0, Nat.zero_le _, rfl, Below.refl _ _⟩
  case round =>
    obtain ⟨k, hk, rfl, hbw⟩ := hrel
    have HBW := hid hbw
    by_cases hkn : k < n
    · have hd := HD.out.later hbw
      have v0 := cell_later hbw V0.out
      have i0 : wr.cell? ⟨rb, ro + k * 10, none⟩ = some (.string (D.ID k)) := HI.out.later hbw k hkn 0 _ rfl
      have r0 := (hd.rcd k hkn).c0
      have r5 := (hd.rcd k hkn).c5
      have b1 : (0 : Int) ≤ (k : Int) := by omega
      have b2 : (k : Int) < (n : Int) := by omega
      cases hO : D.OT k
      · have hnone := hd.non k hkn hO
        rw [hnone] at r5
        clear hbw hd
        go_wp2
        go_quiet (fail)
        go_wp2
        go_quiet (fail)
        go_wp2
        exact ⟨⟨k + 1, by omega, by go_num, by repeat (refine quiet_below _ _ ?_ _); exact HBW.out⟩, by simp [intOf]; omega⟩
      · obtain ⟨b, hb, hbk⟩ := hd.ent k hkn hO
        rw [hb] at r5
        have d0 : wr.cell? ⟨b, 0, none⟩ = some (.string (tyOf (D.TY k))) := by rw [cell_of_row wr b _ _ _ _ hbk]; rfl
        have d1 : wr.cell? ⟨b, 1, none⟩ = some (.string (D.OI k)) := by rw [cell_of_row wr b _ _ _ _ hbk]; rfl
        have d2 : wr.cell? ⟨b, 2, none⟩ = some (.string (D.OP k)) := by rw [cell_of_row wr b _ _ _ _ hbk]; rfl
        have d3 : wr.cell? ⟨b, 3, none⟩ = some (.int .u64 (tW (D.OA k))) := by rw [cell_of_row wr b _ _ _ _ hbk]; rfl
        have d4 : wr.cell? ⟨b, 4, none⟩ = some (.int .i64 (tX (D.OA k))) := by rw [cell_of_row wr b _ _ _ _ hbk]; rfl
        have d5 : wr.cell? ⟨b, 5, none⟩ = some (.pointer none) := by rw [cell_of_row wr b _ _ _ _ hbk]; rfl
        have d6 : wr.cell? ⟨b, 6, none⟩ = some (.pointer none) := by rw [cell_of_row wr b _ _ _ _ hbk]; rfl
        have d7 : wr.cell? ⟨b, 7, none⟩ = some (.pointer none) := by rw [cell_of_row wr b _ _ _ _ hbk]; rfl
        have d8 : wr.cell? ⟨b, 8, none⟩ = some (.pointer none) := by rw [cell_of_row wr b _ _ _ _ hbk]; rfl
        have d9 : wr.cell? ⟨b, 9, none⟩ = some (.pointer (L k)) := by rw [cell_of_row wr b _ _ _ _ hbk]; rfl
        have d10 : wr.cell? ⟨b, 10, none⟩ = some (.pointer none) := by rw [cell_of_row wr b _ _ _ _ hbk]; rfl
        have d11 : wr.cell? ⟨b, 11, none⟩ = some (.pointer none) := by rw [cell_of_row wr b _ _ _ _ hbk]; rfl
        have d12 : wr.cell? ⟨b, 12, none⟩ = some (.pointer none) := by rw [cell_of_row wr b _ _ _ _ hbk]; rfl
        have d13 : wr.cell? ⟨b, 13, none⟩ = some (.pointer none) := by rw [cell_of_row wr b _ _ _ _ hbk]; rfl
        have o0 : wr.cell? ⟨go, k * 14, none⟩ = some (.string (tyOf (D.TY k))) := hd.oth k hkn hO 0 _ rfl
        have o1 : wr.cell? ⟨go, k * 14 + 1, none⟩ = some (.string (D.OI k)) := hd.oth k hkn hO 1 _ rfl
        have o2 : wr.cell? ⟨go, k * 14 + 2, none⟩ = some (.string (D.OP k)) := hd.oth k hkn hO 2 _ rfl
        have o3 : wr.cell? ⟨go, k * 14 + 3, none⟩ = some (.int .u64 (tW (D.OA k))) := hd.oth k hkn hO 3 _ rfl
        have o4 : wr.cell? ⟨go, k * 14 + 4, none⟩ = some (.int .i64 (tX (D.OA k))) := hd.oth k hkn hO 4 _ rfl
        have o5 : wr.cell? ⟨go, k * 14 + 5, none⟩ = some (.pointer none) := hd.oth k hkn hO 5 _ rfl
        have o6 : wr.cell? ⟨go, k * 14 + 6, none⟩ = some (.pointer none) := hd.oth k hkn hO 6 _ rfl
        have o7 : wr.cell? ⟨go, k * 14 + 7, none⟩ = some (.pointer none) := hd.oth k hkn hO 7 _ rfl
        have o8 : wr.cell? ⟨go, k * 14 + 8, none⟩ = some (.pointer none) := hd.oth k hkn hO 8 _ rfl
        have o9 : wr.cell? ⟨go, k * 14 + 9, none⟩ = some (.pointer (L k)) := hd.oth k hkn hO 9 _ rfl
        have o10 : wr.cell? ⟨go, k * 14 + 10, none⟩ = some (.pointer none) := hd.oth k hkn hO 10 _ rfl
        have o11 : wr.cell? ⟨go, k * 14 + 11, none⟩ = some (.pointer none) := hd.oth k hkn hO 11 _ rfl
        have o12 : wr.cell? ⟨go, k * 14 + 12, none⟩ = some (.pointer none) := hd.oth k hkn hO 12 _ rfl
        have o13 : wr.cell? ⟨go, k * 14 + 13, none⟩ = some (.pointer none) := hd.oth k hkn hO 13 _ rfl
        clear hbw hd hbk
        go_wp2
        go_quiet (fail)
        go_wp2
        go_quiet (fail)
        go_wp2
        exact ⟨⟨k + 1, by omega, by go_num, by repeat (refine quiet_below _ _ ?_ _); exact HBW.out⟩, by simp [intOf]; omega⟩
    · have b2 : ¬ (k : Int) < (n : Int) := by omega
      clear hbw
      go_wp2
      go_ret
      exact ⟨rfl, HB.out.trans (HBW.out.mono HB.out.size)⟩

end Go.Proofs.Ybulkebiw
