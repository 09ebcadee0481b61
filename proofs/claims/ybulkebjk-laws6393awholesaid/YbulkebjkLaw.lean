import Derived.Test.YbulkebjkSegP
namespace Go.Proofs.Ybulkebjk
open Go.RowKit
set_option linter.unusedVariables false

/-- The first k pointers made. -/
structure Mk (w0 w : World) (n k : Nat) : Prop where
  size : w.heap.size = w0.heap.size + 1 + k
  row : ∃ cur : List Value, w.heap[w0.heap.size]? = some (.cells cur.toArray 25 (0, 0)) ∧ cur.length = n + 1 ∧ ∀ i, i < k → cur[i]? = some (key w0.heap.size i)
  mine : ∀ i, i < k → Mine w (w0.heap.size + 1 + i)
  below : Below w0.heap.size w0 w

theorem Mk.step {w0 w : World} {n k : Nat} (h : Mk w0 w n k) (hk : k < n + 1) (cs : Array Value) : Mk w0 ((w.setCell ⟨w0.heap.size, k, none⟩ (.pointer (some ⟨w.heap.size, 0, none⟩))).alloc (.cells cs 37)) n (k + 1) := by
  obtain ⟨cur, h1, h2, h3⟩ := h.row
  have hsz := h.size
  rw [show (Value.pointer (some ⟨w.heap.size, 0, none⟩)) = key w0.heap.size k by rw [hsz]]
  have hs2 : (w.setCell ⟨w0.heap.size, k, none⟩ (key w0.heap.size k)).heap.size = w.heap.size := by simp
  refine ⟨by simp; omega, ⟨cur.set k (key w0.heap.size k), by rw [Below.heap_alloc _ _ _ (by rw [hs2]; omega), heap_setCell_same _ _ _ _ _ _ h1]; simp, by simpa using h2, fun i hi => ?_⟩, fun i hi => ?_, (h.below.setCell (Nat.le_refl _) _).alloc (by rw [hs2]; omega) _⟩
  · rcases Nat.lt_or_ge i k with hik | hik
    · rw [List.getElem?_set_ne (by omega)]; exact h3 i hik
    · obtain rfl : i = k := by omega
      simp [h2, hk]
  · rcases Nat.lt_or_ge i k with hik | hik
    · refine (h.mine i hik).same ((Below.heap_alloc _ _ _ (by rw [hs2]; omega)).trans (heap_setCell_other _ _ _ _ (by simp; omega)))
    · obtain rfl : i = k := by omega
      refine ⟨cs, 37, ?_⟩
      rw [← hsz, ← hs2]
      exact heap_alloc_new _ _

set_option maxHeartbeats 4000000 in
set_option maxRecDepth 100000 in
theorem law_any (pick : Int) (a : Option Addr) (n c bb off : Nat) (Z : Nat → Nat) (w : World) (hp0 : 0 ≤ pick) (hp1 : pick < 18446744073709551616) (hnm : n ≤ maxLen)
    (hbb : 0 < n → bb < w.heap.size) (ha : 0 < n → a = some ⟨bb, off, none⟩) (hZ : ∀ i, i < n → w.cell? ⟨bb, off + i, none⟩ = some (.int .u8 (Z i : Nat))) (hZ2 : ∀ i, i < n → Z i < 256) :
    Calls Yba.prog 3 #[.slice a n c, .int .u64 pick] w fun e w' => e = .returned (.bool true) ∧ Below w.heap.size w w' := by
  unfold maxLen at hnm
  by_cases hn : n ≤ 65536
  · have b0 : ¬ (65536 < (n : Int)) := by omega
    have bw : IntKind.i64.wrap ((n : Int) + 1) = (n : Int) + 1 := by rw [IntKind.wrap_i64]; omega
    have hmk := mk24 n hn w
    have HZ := hid hZ
    have HZ2 := hid hZ2
    have HA := hid ha
    have HBB := hid hbb
    clear hZ hZ2 ha hbb
    go_enter Yba.func3, Yba.ntmps3
    go_wp2
    have hst : Mk w (w.alloc (.cells (Array.replicate (n + 1) (Value.pointer none)) 25)) n 0 := by
      refine ⟨by simp, ⟨List.replicate (n + 1) (.pointer none), ?_, by simp, fun i hi => absurd hi (Nat.not_lt_zero _)⟩, fun i hi => absurd hi (Nat.not_lt_zero _), (Below.refl _ _).alloc (Nat.le_refl _) _⟩
      rw [heap_alloc_new]
      exact congrArg (fun x => some (Obj.cells x 25 (0, 0))) (Array.ext' (by simp))
    have HST := hid hst
    clear hst hmk
    go_loopw [7] (fun iv wr => ∃ k : Nat, k ≤ n + 1 ∧ iv = .int .i64 k ∧ Mk w wr n k) (fun iv _ => n + 1 - (intOf iv).toNat)
    case atStart => exact ⟨0, Nat.zero_le _, rfl, HST.out⟩
    case round =>
      obtain ⟨k, hk, rfl, hmk⟩ := hrel
      by_cases hkn : k ≤ n
      · obtain ⟨cur, h1, h2, h3⟩ := hmk.row
        have hl : k < cur.length := by omega
        have hv0 : wr.cell? ⟨w.heap.size, k, none⟩ = some cur[k] := by rw [cell_of_row wr _ _ _ _ _ h1]; simp [hl]
        have hf0 : wr.frozen? ⟨w.heap.size, k, none⟩ = false := frozen_of_row wr _ _ _ _ h1
        have hlt := lt_of_block h1
        have b3 : (k : Int) ≤ (n : Int) := by omega
        have b4 : (0 : Int) ≤ (k : Int) := by omega
        have b5 : (k : Int) < (n : Int) + 1 := by omega
        have HM := hid hmk
        clear h1 h3 hmk
        go_wp2
        exact ⟨⟨k + 1, by omega, by go_num, HM.out.step (by omega) _⟩, by simp [intOf]; omega⟩
      · obtain rfl : k = n + 1 := by omega
        have b3 : ¬ (((n + 1 : Nat) : Int) ≤ (n : Int)) := by omega
        have HM := hid hmk
        clear hmk
        go_upto_if 33 with fail
        go_step
        go_step
        go_step
        go_step
        go_step
        go_step
        obtain ⟨cur, h1, h2, h3⟩ := HM.out.row
        exact segP pick a n c w.heap.size bb off Z w wr hp0 hp1 hn HM.out.below (Nat.le_refl _) (by have := HM.out.size; omega) HBB.out HA.out (fun i hi => cell_later HM.out.below (HZ.out i hi)) HZ2.out
          (fun i hi => by rw [cell_of_row wr _ _ _ _ _ h1]; simpa using h3 i hi) HM.out.mine
  · have b0 : (65536 < (n : Int)) := by omega
    clear hZ hZ2 ha hbb
    go_enter Yba.func3, Yba.ntmps3
    go_wp2
    go_ret
    exact ⟨rfl, Below.refl _ _⟩
end Go.Proofs.Ybulkebjk
