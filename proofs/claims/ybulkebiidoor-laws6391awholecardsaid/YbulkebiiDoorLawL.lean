import Derived.Test.YbulkebiiDoorLawG
namespace Go.Proofs.YbulkebiiDoor
open Go.RowKit
set_option linter.unusedVariables false

/-- What the reader left, as the law's slots 11 and 12 hold it. -/
def Readout (w : World) (code flags vendor : Int) (a : Option Addr) (c : Nat) (zs : List Int) (pe p6 : Addr) (e12 : Value) (g11 top : Nat) : Prop :=
  g11 < top ∧ if good zs = true then e12 = .nilIface ∧ w.heap[g11]? = some (.cells #[.int .u64 (be8 (padI zs 0) (padI zs 1) (padI zs 2) (padI zs 3) (padI zs 4) (padI zs 5) (padI zs 6) (padI zs 7)), .int .u64 (be8 (padI zs 8) (padI zs 9) (padI zs 10) (padI zs 11) (padI zs 12) (padI zs 13) (padI zs 14) (padI zs 15)), .pointer (some p6), .int .u8 ((bitsN zs : Int) + 1)] 36 (0, 0))
    else ∃ g, g < top ∧ e12 = .iface 48 (.pointer (some ⟨g, 0, none⟩)) ∧ w.heap[g11]? = some (.cells #[.int .u64 0, .int .u64 0, .pointer none, .int .u8 0] 36 (0, 0)) ∧ w.heap[g]? = some (.cells #[.iface 94 (.pointer (some pe)), .int .u32 code, .int .u8 flags, .int .u32 vendor, .slice a zs.length c] 51 (0, 0))

/-- The octets filled in so far. -/
def fillV (zs : List Int) (k : Nat) : List Value := (List.range 16).map fun j => .int .u8 (if j < k then zs.getD (2 + j) 0 else 0)

theorem fillV_length (zs : List Int) (k : Nat) : (fillV zs k).length = 16 := by simp [fillV]

theorem fillV_set (zs : List Int) (k : Nat) (hk : k < 16) : (fillV zs k).set k (.int .u8 (zs.getD (2 + k) 0)) = fillV zs (k + 1) := by
  apply List.ext_getElem?
  intro i
  unfold fillV
  rw [List.getElem?_set]
  by_cases hi : i < 16
  · by_cases e : k = i
    · subst e
      simp [hk]
    · rw [if_neg e]
      simp only [List.getElem?_map, List.getElem?_range hi, Option.map_some]
      by_cases h : i < k
      · rw [if_pos h, if_pos (by omega)]
      · rw [if_neg h, if_neg (by omega)]
  · rw [if_neg (by omega), List.getElem?_eq_none (by simp; omega), List.getElem?_eq_none (by simp; omega)]

theorem padI_eq (zs : List Int) (hzs : ∀ z ∈ zs, byte z) (i : Nat) (hi : i < 16) : padI zs i = if i < zs.length - 2 then zs.getD (2 + i) 0 else 0 := by
  unfold padI padN
  rw [List.getD, List.getElem?_take_of_lt hi]
  by_cases h : i < zs.length - 2
  · rw [if_pos h, List.getElem?_append_left (by simpa using h), List.getElem?_map, List.getElem?_drop, List.getD, List.getElem?_eq_getElem (by omega)]
    have := hzs _ (List.getElem_mem (l := zs) (n := 2 + i) (by omega))
    unfold byte at this
    simp
    omega
  · rw [if_neg h, List.getElem?_append_right (by simp; omega)]
    simp only [List.getElem?_replicate]
    split <;> simp

theorem fillV_pad (zs : List Int) (hzs : ∀ z ∈ zs, byte z) (i : Nat) (hi : i < 16) : (fillV zs (zs.length - 2))[i]? = some (.int .u8 (padI zs i)) := by
  unfold fillV
  rw [List.getElem?_map, List.getElem?_range hi, padI_eq zs hzs i hi]
  rfl

/-- A stray bit among the first k. -/
def strayTo (X : List Nat) (n k : Nat) : Bool := (List.range k).any fun i => decide (n ≤ i) && (X.getD (i / 8) 0).testBit (7 - i % 8)

theorem good_stray (zs : List Int) (h1 : 2 ≤ zs.length) (h2 : zs.length ≤ 18) (h3 : bitsN zs ≤ 8 * (zs.length - 2)) : good zs = !stray (padN zs) (bitsN zs) := by
  unfold good
  rw [decide_eq_true h1, decide_eq_true h2, decide_eq_true h3]
  rfl

theorem and_bit (Y r : Nat) (hY : Y < 256) (hr : r < 8) : (bits .and .u8 (Y : Int) (128 / 2 ^ r) != 0) = Y.testBit (7 - r) := by
  have h1 : (128 : Int) / 2 ^ r = ((2 ^ (7 - r) : Nat) : Int) := by
    rcases (by omega : r = 0 ∨ r = 1 ∨ r = 2 ∨ r = 3 ∨ r = 4 ∨ r = 5 ∨ r = 6 ∨ r = 7) with rfl | rfl | rfl | rfl | rfl | rfl | rfl | rfl <;> rfl
  have h2 : 2 ^ (7 - r) < 256 := Nat.lt_of_le_of_lt (Nat.pow_le_pow_right (by omega) (show 7 - r ≤ 7 by omega)) (by omega)
  rw [h1, u8_and_nat _ _ hY h2]
  have h3 : (Y &&& 2 ^ (7 - r)).testBit (7 - r) = Y.testBit (7 - r) := by
    rw [Nat.testBit_and, Nat.testBit_two_pow]
    simp
  cases ht : Y.testBit (7 - r) with
  | true =>
    rw [ht] at h3
    have h4 : Y &&& 2 ^ (7 - r) ≠ 0 := fun h => by rw [h] at h3; simp at h3
    simp only [bne_iff_ne, ne_eq]
    omega
  | false =>
    have h4 : Y &&& 2 ^ (7 - r) = 0 := by
      apply Nat.eq_of_testBit_eq
      intro i
      rw [Nat.testBit_and, Nat.testBit_two_pow, Nat.zero_testBit]
      by_cases e : 7 - r = i
      · subst e
        rw [ht]
        rfl
      · rw [decide_eq_false e, Bool.and_false]
    rw [h4]
    rfl

theorem strayTo_succ (X : List Nat) (n k : Nat) : strayTo X n (k + 1) = (strayTo X n k || (decide (n ≤ k) && (X.getD (k / 8) 0).testBit (7 - k % 8))) := by
  simp [strayTo, List.range_succ]

set_option maxHeartbeats 4000000 in
set_option maxRecDepth 100000 in
theorem lawL {u4 u5 u6 u7 u8 u10 u16 u17 u18 u19 u20 u21 u22 u23 u24 u25 u26 u27 u28 u29 u30 u31 u32 u33 u34 u35 u36 u37 u38 u39 u40 u41 u42 u43 u44 u45 u46 u47 u48 u49 u50 u51 u52 u53 u54 u55 u56 u57 u58 u59 u60 u61 u62 u63 u64 u65 u66 u67 u68 u69 u70 u71 u72 u73 u74 u75 u76 u77 u78 u79 u80 u81 u82 u83 u84 u85 u86 u87 u88 u89 u90 u91 u92 u93 u94 u95 u96 u97 u98 u99 u100 u101 u102 u103 u104 u105 u106 u107 u108 u109 u110 u111 u112 u113 u114 u115 u116 u117 u118 u119 u120 u121 u122 u123 u124 u125 u126 u127 u128 u129 u130 u131 u132 u133 u134 u135 u136 u137 u138 u139 u140 u141 u142 u143 u144 u145 u146 u147 u148 u149 u150 u151 u152 u153 u154 u155 u156 u157 u158 u159 u160 u161 u162 u163 u164 u165 u166 u167 u168 u169 u170 u171 u172 u173 u174 u175 u176 u177 u178 u179 u180 u181 u182 u183 : Value} (code flags vendor : Int) (a : Option Addr) (e12 : Value) (pe p6 : Addr) (zs : List Int) (n c c2 b2 o2 g11 g14 : Nat) (w0 w : World) (hb : Below w0.heap.size w0 w) (hlow : w0.heap.size ≤ g14) (hxa : Byt w0 a zs) (k0 : w0.cell? ⟨0, 0, none⟩ = some (.iface 94 (.pointer (some pe)))) (hr : Readout w code flags vendor a c zs pe p6 e12 g11 g14) (hn : n = zs.length) (hl2 : 2 ≤ n) (hl18 : n ≤ 18) (hc : n ≤ c2) (hcm : c2 ≤ maxLen) (hzs : ∀ z ∈ zs, byte z) (hx : ∀ i, i < zs.length → w.cell? ⟨b2, o2 + i, none⟩ = some (.int .u8 (zs.getD i 0))) (hb2 : b2 < g14) (h14 : w.heap[g14]? = some (.cells (fillV zs 0).toArray 42 (0, 0))) :
    Code.wp Ybad.prog (dropSeq 10 (Ybad.f3.body.getD .skip)) (bodyPost Ybad.prog Ybad.f3 (fun e w' => e = .returned (.bool true) ∧ Below w0.heap.size w0 w'))
      ⟨#[.int .u32 code, .int .u8 flags, .int .u32 vendor, .slice a n c, u4, u5, u6, u7, u8, .slice (some ⟨b2, o2, none⟩) n c2, u10, .pointer (some ⟨g11, 0, none⟩), e12, .bool true, .pointer (some ⟨g14, 0, none⟩), .int .i64 0, u16, u17, u18, u19, u20, u21, u22, u23, u24, u25, u26, u27, u28, u29, u30, u31, u32, u33, u34, u35, u36, u37, u38, u39, u40, u41, u42, u43, u44, u45, u46, u47, u48, u49, u50, u51, u52, u53, u54, u55, u56, u57, u58, u59, u60, u61, u62, u63, u64, u65, u66, u67, u68, u69, u70, u71, u72, u73, u74, u75, u76, u77, u78, u79, u80, u81, u82, u83, u84, u85, u86, u87, u88, u89, u90, u91, u92, u93, u94, u95, u96, u97, u98, u99, u100, u101, u102, u103, u104, u105, u106, u107, u108, u109, u110, u111, u112, u113, u114, u115, u116, u117, u118, u119, u120, u121, u122, u123, u124, u125, u126, u127, u128, u129, u130, u131, u132, u133, u134, u135, u136, u137, u138, u139, u140, u141, u142, u143, u144, u145, u146, u147, u148, u149, u150, u151, u152, u153, u154, u155, u156, u157, u158, u159, u160, u161, u162, u163, u164, u165, u166, u167, u168, u169, u170, u171, u172, u173, u174, u175, u176, u177, u178, u179, u180, u181, u182, u183], []⟩ w := by
  conv => arg 2; whnf
  have HX := hid hx
  have HB := hid hb
  have HXA := hid hxa
  have K0 := hid k0
  have HR := hid hr
  have c1 : w.cell? ⟨b2, o2 + 1, none⟩ = some (.int .u8 (zs.getD 1 0)) := hx 1 (by omega)
  have hb1 : byte (zs.getD 1 0) := by
    rw [List.getD, List.getElem?_eq_getElem (by omega)]
    exact hzs _ (List.getElem_mem _)
  have em : zs.getD 1 0 = ((bitsN zs : Nat) : Int) := by
    unfold byte at hb1
    unfold bitsN
    omega
  obtain ⟨m, hm⟩ : ∃ m, m = bitsN zs := ⟨_, rfl⟩
  rw [em, ← hm] at c1
  have hm256 : m < 256 := by
    unfold byte at hb1
    omega
  have HM := hid hm
  have HN := hid hn
  have HZS := hid hzs
  have H14 := hid h14
  have q1 : (1 : Int) < (n : Int) := by omega
  have hw1 : IntKind.i64.wrap ((n : Int) - 2) = ((n - 2 : Nat) : Int) := by rw [IntKind.wrap_i64]; omega
  have hl14 : g14 < w.heap.size := lt_of_block h14
  unfold maxLen at hcm
  clear hx hb1 em hm hn hzs h14 hb hxa k0 hr
  dsimp only
  go_upto_if 54 with fail
  go_cut [13, 15] (fun v13 v15 wc => v13 = .bool (good zs) ∧ v15 = .int .i64 m ∧ wc.heap[g14]? = some (.cells (fillV zs (n - 2)).toArray 42 (0, 0)) ∧ Below g14 w wc)
  case first =>
    go_wp2_with fail
    go_loopw [17] (fun i wr => ∃ k : Nat, k ≤ n - 2 ∧ i = .int .i64 k ∧ wr.heap[g14]? = some (.cells (fillV zs k).toArray 42 (0, 0)) ∧ Below g14 w wr) (fun i _ => n - 2 - (intOf i).toNat)
    case atStart => exact ⟨0, Nat.zero_le _, rfl, H14.out, Below.refl _ _⟩
    case round =>
      obtain ⟨k, hk, rfl, h3, hbr⟩ := hrel
      by_cases hlt : k < n - 2
      · have b0 : (0 : Int) ≤ (k : Int) := by omega
        have b1 : (k : Int) < ((n - 2 : Nat) : Int) := by omega
        have b2' : (k : Int) < 16 := by omega
        have b3 : IntKind.i64.wrap (2 + (k : Int)) = 2 + (k : Int) := by rw [IntKind.wrap_i64]; omega
        have b4 : 2 + (k : Int) < (n : Int) := by omega
        have b5 : (0 : Int) ≤ 2 + (k : Int) := by omega
        have b6 : IntKind.i64.wrap ((k : Int) + 1) = (k : Int) + 1 := by rw [IntKind.wrap_i64]; omega
        have b7 : (2 + (k : Int)).toNat = 2 + k := by omega
        have hrl : g14 < wr.heap.size := lt_of_block h3
        obtain ⟨z, hz⟩ : ∃ z, z = zs.getD (2 + k) 0 := ⟨_, rfl⟩
        have e1 : wr.cell? ⟨b2, o2 + (2 + k), none⟩ = some (.int .u8 z) := by rw [hz]; exact (hbr.cell hb2).trans (HX.out (2 + k) (by have := HN.out; omega))
        have H3 := hid h3
        have HBR := hid hbr
        have hfz : wr.frozen? ⟨g14, k, none⟩ = false := frozen_of_row _ _ _ _ _ h3
        have hsm : ∃ v, wr.cell? ⟨g14, k, none⟩ = some v := by
          rw [cell_of_row wr g14 _ _ _ _ h3]
          exact ⟨_, by simp [fillV_length, show k < 16 by omega]; rfl⟩
        obtain ⟨v0, hv0⟩ := hsm
        have HZ := hid hz
        clear h3 hbr hz
        go_wp2
        go_roundw
        case rel => exact ⟨k + 1, by omega, by go_num, by rw [block_setCell H3.out, HZ.out, ← fillV_set zs k (by omega)]; simp, HBR.out.setCell (Nat.le_refl _) _⟩
        case measure => simp [intOf]; omega
      · obtain rfl : k = n - 2 := by omega
        have hw2 : IntKind.i64.wrap (8 * ((n - 2 : Nat) : Int)) = 8 * ((n - 2 : Nat) : Int) := by rw [IntKind.wrap_i64]; omega
        have H3 := hid h3
        have HBR := hid hbr
        clear h3 hbr
        by_cases hgt : 8 * (n - 2) < m
        · have hgt' : 8 * ((n - 2 : Nat) : Int) < (m : Int) := by omega
          go_wp2
          go_meet
          case rel => exact ⟨by rw [good_long zs (by rw [← HN.out, ← HM.out]; omega)], rfl, H3.out, HBR.out⟩
        · have hgt' : ¬ 8 * ((n - 2 : Nat) : Int) < (m : Int) := by omega
          go_wp2_with fail
          go_loopw [13, 18] (fun v13 i wx => ∃ k : Nat, k ≤ 128 ∧ i = .int .i64 k ∧ v13 = .bool (!strayTo (padN zs) m k) ∧ wx = wr) (fun _ i _ => 128 - (intOf i).toNat)
          case atStart => exact ⟨0, Nat.zero_le _, rfl, rfl, rfl⟩
          case round =>
            obtain ⟨k, hk, rfl, rfl, rfl⟩ := hrel
            by_cases hlt2 : k < 128
            · by_cases hmk : m ≤ k
              · obtain ⟨Y, hY⟩ : ∃ Y : Nat, Y = (padN zs).getD (k / 8) 0 := ⟨_, rfl⟩
                have hmk' : (m : Int) ≤ (k : Int) := by omega
                have e9 : wr.cell? ⟨g14, k / 8, none⟩ = some (.int .u8 Y) := by
                  rw [cell_of_row wr g14 _ _ _ _ H3.out, hY]
                  have := fillV_pad zs HZS.out (k / 8) (by omega)
                  rw [← HN.out] at this
                  simpa [padI] using this
                have hY256 : Y < 256 := by
                  have h1 := padI_byte zs HZS.out (k / 8)
                  unfold byte padI at h1
                  omega
                have HY := hid hY
                clear hY
                have hbit := and_bit Y (k % 8) hY256 (by omega)
                have HS := hid (strayTo_succ (padN zs) m k)
                cases ht : Y.testBit (7 - k % 8) with
                | true =>
                  rw [ht] at hbit
                  have HT := hid ht
                  clear ht
                  go_wp2
                  go_roundw
                  case rel => exact ⟨k + 1, by omega, by go_num, by rw [HS.out, ← HY.out, HT.out, decide_eq_true hmk]; simp, trivial⟩
                  case measure => simp [intOf]; omega
                | false =>
                  rw [ht] at hbit
                  have HT := hid ht
                  clear ht
                  go_wp2
                  go_roundw
                  case rel => exact ⟨k + 1, by omega, by go_num, by rw [HS.out, ← HY.out, HT.out, decide_eq_true hmk]; simp, trivial⟩
                  case measure => simp [intOf]; omega
              · have hmk' : ¬ (m : Int) ≤ (k : Int) := by omega
                have HS := hid (strayTo_succ (padN zs) m k)
                go_wp2
                go_roundw
                case rel => exact ⟨k + 1, by omega, by go_num, by rw [HS.out, decide_eq_false hmk]; simp, trivial⟩
                case measure => simp [intOf]; omega
            · obtain rfl : k = 128 := by omega
              go_wp2
              go_meet
              case rel => exact ⟨by rw [good_stray zs (by rw [← HN.out]; omega) (by rw [← HN.out]; omega) (by rw [← HN.out, ← HM.out]; omega), ← HM.out]; rfl, rfl, H3.out, HBR.out⟩
  case rest =>
    obtain ⟨rfl, rfl, h4, hbc⟩ := hcut
    have ab : Below w0.heap.size w0 wc := HB.out.trans (hbc.mono hlow)
    obtain ⟨hg1, hrr⟩ := HR.out
    have hpad : fillV zs (n - 2) = [.int .u8 (padI zs 0), .int .u8 (padI zs 1), .int .u8 (padI zs 2), .int .u8 (padI zs 3), .int .u8 (padI zs 4), .int .u8 (padI zs 5), .int .u8 (padI zs 6), .int .u8 (padI zs 7), .int .u8 (padI zs 8), .int .u8 (padI zs 9), .int .u8 (padI zs 10), .int .u8 (padI zs 11), .int .u8 (padI zs 12), .int .u8 (padI zs 13), .int .u8 (padI zs 14), .int .u8 (padI zs 15)] := by
      rw [HN.out]
      apply List.ext_getElem?
      intro i
      by_cases hi : i < 16
      · rw [fillV_pad zs HZS.out i hi]
        rcases (by omega : i = 0 ∨ i = 1 ∨ i = 2 ∨ i = 3 ∨ i = 4 ∨ i = 5 ∨ i = 6 ∨ i = 7 ∨ i = 8 ∨ i = 9 ∨ i = 10 ∨ i = 11 ∨ i = 12 ∨ i = 13 ∨ i = 14 ∨ i = 15) with rfl | rfl | rfl | rfl | rfl | rfl | rfl | rfl | rfl | rfl | rfl | rfl | rfl | rfl | rfl | rfl <;> rfl
      · rw [List.getElem?_eq_none (by rw [fillV_length]; omega), List.getElem?_eq_none (by simp; omega)]
    rw [hpad] at h4
    cases hg : good zs with
    | true =>
      rw [hg, if_pos rfl] at hrr
      obtain ⟨rfl, h11⟩ := hrr
      have hm128 : m < 255 := by
        unfold good at hg
        simp at hg
        have := HM.out
        have := HN.out
        omega
      rw [← HM.out] at h11
      go_step
      exact lawG (padI zs 0) (padI zs 1) (padI zs 2) (padI zs 3) (padI zs 4) (padI zs 5) (padI zs 6) (padI zs 7) (padI zs 8) (padI zs 9) (padI zs 10) (padI zs 11) (padI zs 12) (padI zs 13) (padI zs 14) (padI zs 15) g11 g14 m p6 w0 wc (padI_byte zs HZS.out 0) (padI_byte zs HZS.out 1) (padI_byte zs HZS.out 2) (padI_byte zs HZS.out 3) (padI_byte zs HZS.out 4) (padI_byte zs HZS.out 5) (padI_byte zs HZS.out 6) (padI_byte zs HZS.out 7) (padI_byte zs HZS.out 8) (padI_byte zs HZS.out 9) (padI_byte zs HZS.out 10) (padI_byte zs HZS.out 11) (padI_byte zs HZS.out 12) (padI_byte zs HZS.out 13) (padI_byte zs HZS.out 14) (padI_byte zs HZS.out 15) hm128 ab ((hbc.block _ hg1).trans h11) h4
    | false =>
      rw [hg, if_neg (by simp)] at hrr
      obtain ⟨g, hgt, rfl, h11, hge⟩ := hrr
      have hxw : Byt wc (some ⟨b2, o2, none⟩) zs := Or.inr ⟨b2, o2, rfl, fun i hi => (hbc.cell hb2).trans (HX.out i hi)⟩
      go_step
      exact lawT code flags vendor a (some ⟨b2, o2, none⟩) n c c2 g11 g pe w0 wc zs HN.out (HXA.out.later ab) hxw ab (cell_later ab K0.out) ((hbc.block _ hg1).trans h11) (by rw [(hbc.block _ hgt).trans hge, HN.out])
end Go.Proofs.YbulkebiiDoor
