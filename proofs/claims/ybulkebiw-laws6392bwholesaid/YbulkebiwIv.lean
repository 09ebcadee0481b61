import Derived.Test.YbulkebiwSegU
namespace Go.Proofs.Ybulkebiw
open Go.RowKit
set_option linter.unusedVariables false

/-- The six cells of a record. -/
abbrev R6 (D : Dat) (k : Nat) (m o : Option Addr) : Array Value := #[.string (D.ID k), .int .u64 (tW (D.AT k)), .int .i64 (tX (D.AT k)), .pointer none, .pointer m, .pointer o]

/-- What stands ahead of round k: the two rows, the first k records in them. -/
structure Iv (w0 w : World) (gr go n k : Nat) (D : Dat) (M O L : Nat → Option Addr) : Prop where
  rrow : ∃ cur : Array Value, w.heap[gr]? = some (.cells cur 76 (0, 0)) ∧ cur.size = n * 6
  orow : ∃ cur : Array Value, w.heap[go]? = some (.cells cur 91 (0, 0)) ∧ cur.size = n * 14
  db : Db w gr go k D M O L
  gt : ∀ i, i < k → ∀ b, O i = some ⟨b, 0, none⟩ → go < b
  below : Below w0.heap.size w0 w

/-- One round more. -/
theorem Iv.step {w0 w w' : World} {gr go n k : Nat} {D : Dat} {M O L : Nat → Option Addr} (h : Iv w0 w gr go n k D M O L) (hg : gr < go) (hk : k < n) (m o l : Option Addr)
    (h1 : ∀ b, b < w.heap.size → b ≠ gr → b ≠ go → w'.heap[b]? = w.heap[b]?)
    (h2 : ∃ cur' : Array Value, w'.heap[gr]? = some (.cells cur' 76 (0, 0)) ∧ cur'.size = n * 6 ∧ (∀ j, j < k * 6 → ∀ cur, w.heap[gr]? = some (.cells cur 76 (0, 0)) → cur'[j]? = cur[j]?) ∧ ∀ j v, (R6 D k m o)[j]? = some v → cur'[k * 6 + j]? = some v)
    (h3 : ∃ cur' : Array Value, w'.heap[go]? = some (.cells cur' 91 (0, 0)) ∧ cur'.size = n * 14 ∧ (∀ j, j < k * 14 → ∀ cur, w.heap[go]? = some (.cells cur 91 (0, 0)) → cur'[j]? = cur[j]?) ∧ (D.OT k = true → ∀ j v, (Ee D k l)[j]? = some v → cur'[k * 14 + j]? = some v))
    (h4 : D.OT k = true → ∃ b, o = some ⟨b, 0, none⟩ ∧ w'.heap[b]? = some (.cells (Ee D k l) 91 (0, 0)) ∧ go < b) (h5 : D.OT k = false → o = none)
    (h6 : Below w0.heap.size w0 w') :
    Iv w0 w' gr go n (k + 1) D (fun i => if i = k then m else M i) (fun i => if i = k then o else O i) (fun i => if i = k then l else L i) := by
  obtain ⟨c1, a1, a2, a3, a4⟩ := h2
  obtain ⟨c2, d1, d2, d3, d4⟩ := h3
  obtain ⟨o1, e1, e2⟩ := h.rrow
  obtain ⟨o2, f1, f2⟩ := h.orow
  have cg : ∀ i j v, i < k → j < 6 → w.cell? ⟨gr, i * 6 + j, none⟩ = some v → w'.cell? ⟨gr, i * 6 + j, none⟩ = some v := fun i j v hi hj hv => by
    rw [cell_of_row w _ _ _ _ _ e1] at hv
    rw [cell_of_row w' _ _ _ _ _ a1, a3 (i * 6 + j) (by omega) o1 e1]
    exact hv
  have co : ∀ i j v, i < k → j < 14 → w.cell? ⟨go, i * 14 + j, none⟩ = some v → w'.cell? ⟨go, i * 14 + j, none⟩ = some v := fun i j v hi hj hv => by
    rw [cell_of_row w _ _ _ _ _ f1] at hv
    rw [cell_of_row w' _ _ _ _ _ d1, d3 (i * 14 + j) (by omega) o2 f1]
    exact hv
  have nk : ∀ i, i < k → (i = k) = False := fun i hi => by simp; omega
  refine ⟨⟨c1, a1, a2⟩, ⟨c2, d1, d2⟩, ⟨fun i hi => ?_, fun i hi ho => ?_, fun i hi ho j v hv => ?_, fun i hi ho => ?_⟩, fun i hi b hb => ?_, h6⟩
  · rcases Nat.lt_or_ge i k with hik | hik
    · have r := h.db.rcd i hik
      simp only [nk i hik, if_false]
      exact ⟨cg i 0 _ hik (by omega) r.c0, cg i 1 _ hik (by omega) r.c1, cg i 2 _ hik (by omega) r.c2, cg i 3 _ hik (by omega) r.c3, cg i 4 _ hik (by omega) r.c4, cg i 5 _ hik (by omega) r.c5⟩
    · obtain rfl : i = k := by omega
      simp only [if_true]
      exact ⟨by rw [cell_of_row w' _ _ _ _ _ a1]; exact a4 0 _ rfl, by rw [cell_of_row w' _ _ _ _ _ a1]; exact a4 1 _ rfl, by rw [cell_of_row w' _ _ _ _ _ a1]; exact a4 2 _ rfl, by rw [cell_of_row w' _ _ _ _ _ a1]; exact a4 3 _ rfl, by rw [cell_of_row w' _ _ _ _ _ a1]; exact a4 4 _ rfl, by rw [cell_of_row w' _ _ _ _ _ a1]; exact a4 5 _ rfl⟩
  · rcases Nat.lt_or_ge i k with hik | hik
    · obtain ⟨b, hb, hbb⟩ := h.db.ent i hik ho
      simp only [nk i hik, if_false]
      have := h.gt i hik b hb
      exact ⟨b, hb, (h1 b (lt_of_block hbb) (by omega) (by omega)).trans hbb⟩
    · obtain rfl : i = k := by omega
      obtain ⟨b, hb, hbb, _⟩ := h4 ho
      simp only [if_true]
      exact ⟨b, hb, hbb⟩
  · rcases Nat.lt_or_ge i k with hik | hik
    · simp only [nk i hik, if_false] at hv
      have hj : j < 14 := by
        have := (Array.getElem?_eq_some_iff.1 hv).1
        simpa using this
      exact co i j v hik hj (h.db.oth i hik ho j v hv)
    · obtain rfl : i = k := by omega
      simp only [if_true] at hv
      rw [cell_of_row w' _ _ _ _ _ d1]
      exact d4 ho j v hv
  · rcases Nat.lt_or_ge i k with hik | hik
    · simp only [nk i hik, if_false]
      exact h.db.non i hik ho
    · obtain rfl : i = k := by omega
      simp only [if_true]
      exact h5 ho
  · rcases Nat.lt_or_ge i k with hik | hik
    · simp only [nk i hik, if_false] at hb
      exact h.gt i hik b hb
    · obtain rfl : i = k := by omega
      simp only [if_true] at hb
      cases hot : D.OT i with
      | false => rw [h5 hot] at hb; cases hb
      | true =>
        obtain ⟨b', hb', _, hlt⟩ := h4 hot
        rw [hb'] at hb
        cases hb
        exact hlt
end Go.Proofs.Ybulkebiw
