import Derived.Test.YbulkebjkSegB
namespace Go.Proofs.Ybulkebjk
open Go.RowKit
set_option linter.unusedVariables false

theorem mk_run {t e : TypeId} {i : TypeInfo} {z : Value} (ht : Yba.prog.underlying t = some (.slice e)) (hi : Yba.prog.info? e = some i) (hz : i.zero = some z) (h1 : i.size = 1) (h2 : i.bytes = 8) (h3 : z.cells = #[z]) (n : Nat) (hn : n ≤ 65536) (w : World) :
    (Instr.makeSlice t (.int .i64 ((n : Int) + 1)) (.int .i64 ((n : Int) + 1))).run Yba.prog w = .ok (.slice (some ⟨w.heap.size, 0, none⟩) (n + 1) (n + 1)) (w.alloc (.cells (List.replicate (n + 1) z).toArray e)) := by
  have h := run_make (P := Yba.prog) w t e i z ht hi hz .i64 .i64 ((n : Int) + 1) ((n : Int) + 1) (by omega) (Int.le_refl _) (by rw [h2]; omega) (by omega)
  have e1 : ((n : Int) + 1).toNat = n + 1 := by omega
  rw [h, h1, h3, e1, Nat.mul_one]
  have : madeCells #[z] (n + 1) = (List.replicate (n + 1) z).toArray := by rw [← toList_madeCells_one]
  rw [this]

theorem mk38 (n : Nat) (hn : n ≤ 65536) (w : World) : (Instr.makeSlice 38 (.int .i64 ((n : Int) + 1)) (.int .i64 ((n : Int) + 1))).run Yba.prog w = .ok (.slice (some ⟨w.heap.size, 0, none⟩) (n + 1) (n + 1)) (w.alloc (.cells (List.replicate (n + 1) (Value.int .i64 0)).toArray 3)) := by
  obtain ⟨i0, hi, hz0, hz1, hz2⟩ := info_parts Yba.info3
  exact mk_run Yba.underlying38 hi hz0 hz1 hz2 rfl n hn w
theorem mk24 (n : Nat) (hn : n ≤ 65536) (w : World) : (Instr.makeSlice 24 (.int .i64 ((n : Int) + 1)) (.int .i64 ((n : Int) + 1))).run Yba.prog w = .ok (.slice (some ⟨w.heap.size, 0, none⟩) (n + 1) (n + 1)) (w.alloc (.cells (List.replicate (n + 1) (Value.pointer none)).toArray 25)) := by
  obtain ⟨i0, hi, hz0, hz1, hz2⟩ := info_parts Yba.info25
  exact mk_run Yba.underlying24 hi hz0 hz1 hz2 rfl n hn w

/-- The parent of node i, by the bytes Z. -/
def par (Z : Nat → Nat) (i : Nat) : Nat := i - 1 - Z (i - 1) % i

theorem par_lt (Z : Nat → Nat) (i : Nat) (h : 0 < i) : par Z i < i := by unfold par; omega

/-- What is built so far: the pointers, the parents below k, the map's first k entries. -/
structure Pt (w : World) (g gp gm n k : Nat) (p : Nat → Nat) : Prop where
  tx : ∀ i, i < n + 1 → w.cell? ⟨g, i, none⟩ = some (key g i)
  mine : ∀ i, i < n + 1 → Mine w (g + 1 + i)
  par : ∃ cur : List Value, w.heap[gp]? = some (.cells cur.toArray 3 (0, 0)) ∧ cur.length = n + 1 ∧ cur[0]? = some (.int .i64 (-1)) ∧ ∀ i, 0 < i → i < k → cur[i]? = some (.int .i64 (p i))
  map : w.heap[gm]? = some (.map (ents g p k) k)

theorem grow_block (w : World) (gm g : Nat) (p : Nat → Nat) (k b : Nat) (h : b ≠ gm) : (grow w gm g p k).heap[b]? = w.heap[b]? := by
  simp [grow, Ne.symm h]

theorem grow_self {w : World} {gm g : Nat} {p : Nat → Nat} {k : Nat} (h : gm < w.heap.size) : (grow w gm g p k).heap[gm]? = some (.map (ents g p (k + 1)) (k + 1)) := by
  simp [grow, h]

theorem grow_below {B : Nat} {a w : World} {gm g : Nat} {p : Nat → Nat} {k : Nat} (h : Below B a w) (hB : B ≤ gm) : Below B a (grow w gm g p k) :=
  h.trans ⟨rfl, rfl, rfl, by simp [grow], fun b hb => grow_block w gm g p k b (by omega)⟩

theorem grow_cell {w : World} {gm g : Nat} {p : Nat → Nat} {k : Nat} {a : Addr} {v : Value} (h : w.cell? a = some v) (hm : w.heap[gm]? = some (.map (ents g p k) k)) : (grow w gm g p k).cell? a = some v := by
  have hne : a.block ≠ gm := fun e => by
    unfold World.cell? at h
    rw [e, hm] at h
    simp at h
  rw [World.cell?_of_block (w := w) (grow_block w gm g p k a.block hne)]
  exact h

theorem Pt.grow {w : World} {g gp gm n k : Nat} {p : Nat → Nat} (h : Pt w g gp gm n k p) (hp : 0 < k → ∀ cur : List Value, w.heap[gp]? = some (.cells cur.toArray 3 (0, 0)) → cur[k]? = some (.int .i64 (p k))) : Pt (grow w gm g p k) g gp gm n (k + 1) p := by
  have hlt := lt_of_block h.map
  obtain ⟨cur, h1, h2, h3, h4⟩ := h.par
  refine ⟨fun i hi => grow_cell (h.tx i hi) h.map, fun i hi => (h.mine i hi).same (grow_block _ _ _ _ _ _ ?_), ⟨cur, (grow_block _ _ _ _ _ _ ?_).trans h1, h2, h3, fun i h0 hi => ?_⟩, grow_self hlt⟩
  · intro e
    obtain ⟨cs, t, hh⟩ := h.mine i hi
    rw [e, h.map] at hh
    cases hh
  · intro e
    rw [e, h.map] at h1
    cases h1
  · rcases Nat.lt_or_ge i k with hik | hik
    · exact h4 i h0 hik
    · obtain rfl : i = k := by omega
      exact hp h0 cur h1

theorem Pt.done {w : World} {g gp gm n : Nat} {p : Nat → Nat} (h : Pt w g gp gm n (n + 1) p) (hp : ∀ i, 0 < i → i ≤ n → p i < i) : St w g gp gm n p := by
  obtain ⟨cur, h1, h2, h3, h4⟩ := h.par
  refine ⟨h.tx, h.mine, ?_, fun i h0 hi => ?_, h.map, hp⟩
  · rw [cell_of_row w gp _ _ _ _ h1]; simpa using h3
  · rw [cell_of_row w gp _ _ _ _ h1]; simpa using h4 i h0 hi

theorem Pt.set {w : World} {g gp gm n k : Nat} {p : Nat → Nat} (h : Pt w g gp gm n k p) (h0 : 0 < k) (hg : g ≠ gp) (hgp : ∀ i, i < n + 1 → g + 1 + i ≠ gp) (v : Value) : Pt (w.setCell ⟨gp, k, none⟩ v) g gp gm n k p ∧ ∀ cur : List Value, (w.setCell ⟨gp, k, none⟩ v).heap[gp]? = some (.cells cur.toArray 3 (0, 0)) → k < n + 1 → cur[k]? = some v := by
  obtain ⟨cur, h1, h2, h3, h4⟩ := h.par
  have hs := heap_setCell_same w gp k cur.toArray 3 v h1
  refine ⟨⟨fun i hi => ?_, fun i hi => (h.mine i hi).same (heap_setCell_other _ _ _ _ (hgp i hi)), ⟨cur.set k v, by rw [hs]; simp, by simpa using h2, ?_, fun i h0 hi => ?_⟩, ?_⟩, fun cur' hc hk => ?_⟩
  · rw [World.cell?_of_block (w := w) (heap_setCell_other _ _ _ _ hg)]
    exact h.tx i hi
  · rw [List.getElem?_set_ne (by omega)]; exact h3
  · rw [List.getElem?_set_ne (by omega)]; exact h4 i h0 hi
  · rw [heap_setCell_other _ _ _ _ (by intro e; simp only at e; rw [← e, h.map] at h1; cases h1)]
    exact h.map
  · rw [hs] at hc
    simp at hc
    rw [← hc]
    simp [h2, hk]

end Go.Proofs.Ybulkebjk
