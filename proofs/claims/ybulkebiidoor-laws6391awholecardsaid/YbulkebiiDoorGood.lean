import Derived.Test.YbulkebiiDoorReadD
namespace Go.Proofs.YbulkebiiDoor
open Go.RowKit
set_option linter.unusedVariables false

theorem list16 (l : List Nat) (h : l.length = 16) : ∃ n0 n1 n2 n3 n4 n5 n6 n7 n8 n9 n10 n11 n12 n13 n14 n15 : Nat, l = [n0, n1, n2, n3, n4, n5, n6, n7, n8, n9, n10, n11, n12, n13, n14, n15] := by
  match l, h with
  | [n0, n1, n2, n3, n4, n5, n6, n7, n8, n9, n10, n11, n12, n13, n14, n15], _ => exact ⟨n0, n1, n2, n3, n4, n5, n6, n7, n8, n9, n10, n11, n12, n13, n14, n15, rfl⟩

/-- The two halves, as the numbers that the octets spell. -/
theorem halves_pad (zs : List Int) (hb : ∀ z ∈ zs, byte z) : ∃ H L : Nat, be8 (padI zs 0) (padI zs 1) (padI zs 2) (padI zs 3) (padI zs 4) (padI zs 5) (padI zs 6) (padI zs 7) = (H : Int) ∧ be8 (padI zs 8) (padI zs 9) (padI zs 10) (padI zs 11) (padI zs 12) (padI zs 13) (padI zs 14) (padI zs 15) = (L : Int) ∧ H < 2 ^ 64 ∧ L < 2 ^ 64 ∧ H * 2 ^ 64 + L = val (padN zs) := by
  have hx := padN_byte zs hb
  have hv : ∀ i, padI zs i = (((padN zs).getD i 0 : Nat) : Int) := fun _ => rfl
  simp only [hv]
  obtain ⟨n0, n1, n2, n3, n4, n5, n6, n7, n8, n9, n10, n11, n12, n13, n14, n15, hl⟩ := list16 (padN zs) (padN_length zs)
  rw [hl] at hx ⊢
  have hy : ∀ x ∈ [n0, n1, n2, n3, n4, n5, n6, n7, n8, n9, n10, n11, n12, n13, n14, n15], x < 256 := hx
  simp only [List.mem_cons, List.not_mem_nil, or_false, forall_eq_or_imp, forall_eq] at hy
  obtain ⟨y0, y1, y2, y3, y4, y5, y6, y7, y8, y9, y10, y11, y12, y13, y14, y15⟩ := hy
  refine ⟨n7 + n6 * 256 + n5 * 65536 + n4 * 16777216 + n3 * 4294967296 + n2 * 1099511627776 + n1 * 281474976710656 + n0 * 72057594037927936, n15 + n14 * 256 + n13 * 65536 + n12 * 16777216 + n11 * 4294967296 + n10 * 1099511627776 + n9 * 281474976710656 + n8 * 72057594037927936, ?_, ?_, ?_, ?_, ?_⟩
  · simp [be8]
  · simp [be8]
  · omega
  · omega
  · simp only [val, List.foldl_cons, List.foldl_nil]
    omega

theorem good_iff (zs : List Int) (hb : ∀ z ∈ zs, byte z) (h2 : 2 ≤ zs.length) (h18 : zs.length ≤ 18) (hle : bitsN zs ≤ (zs.length - 2) * 8) :
    good zs = ((bits .and .u64 (be8 (padI zs 0) (padI zs 1) (padI zs 2) (padI zs 3) (padI zs 4) (padI zs 5) (padI zs 6) (padI zs 7)) (maskHi (bitsN zs)) == be8 (padI zs 0) (padI zs 1) (padI zs 2) (padI zs 3) (padI zs 4) (padI zs 5) (padI zs 6) (padI zs 7)) && (bits .and .u64 (be8 (padI zs 8) (padI zs 9) (padI zs 10) (padI zs 11) (padI zs 12) (padI zs 13) (padI zs 14) (padI zs 15)) (maskLo (bitsN zs)) == be8 (padI zs 8) (padI zs 9) (padI zs 10) (padI zs 11) (padI zs 12) (padI zs 13) (padI zs 14) (padI zs 15))) := by
  obtain ⟨H, L, eH, eL, hH, hL, hv⟩ := halves_pad zs hb
  rw [eH, eL]
  have hm : bitsN zs ≤ 128 := by omega
  have k := masked_iff H L (bitsN zs) hH hL hm
  rw [hv, ← stray_iff (padN zs) (bitsN zs) (padN_length zs) (padN_byte zs hb) hm] at k
  unfold good
  rw [decide_eq_true h2, decide_eq_true h18, decide_eq_true (show bitsN zs ≤ 8 * (zs.length - 2) by omega)]
  simp only [Bool.true_and]
  cases hs : stray (padN zs) (bitsN zs) with
  | false =>
    obtain ⟨a, b⟩ := k.2 hs
    rw [a, b]
    simp
  | true =>
    by_cases h1 : bits .and .u64 (H : Int) (maskHi (bitsN zs)) = H
    · by_cases h3 : bits .and .u64 (L : Int) (maskLo (bitsN zs)) = L
      · have := k.1 ⟨h1, h3⟩
        rw [hs] at this
        cases this
      · simp [h3]
    · simp [h1]

theorem good_long (zs : List Int) (h : (zs.length - 2) * 8 < bitsN zs) : good zs = false := by
  unfold good
  rw [decide_eq_false (show ¬ bitsN zs ≤ 8 * (zs.length - 2) by omega)]
  simp
end Go.Proofs.YbulkebiiDoor
