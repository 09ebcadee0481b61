import Derived.Test.YbulkebiiDoorAddr
namespace Go.Proofs.YbulkebiiDoor
open Go.RowKit

theorem block_setCell {w : World} {b o : Nat} {u : Value} {cs : Array Value} {t : TypeId} {fr : Nat × Nat} (h : w.heap[b]? = some (.cells cs t fr)) :
    (w.setCell ⟨b, o, none⟩ u).heap[b]? = some (.cells (cs.setIfInBounds o u) t fr) := by
  simp [World.setCell, Array.getElem?_modify, h]

theorem setCells_block {g : Nat} {t : TypeId} {fr : Nat × Nat} : ∀ (vs : List Value) (o : Nat) (w : World) (cs : Array Value), w.heap[g]? = some (.cells cs t fr) →
    ∃ cs' : Array Value, (w.setCells g o vs).heap[g]? = some (.cells cs' t fr) ∧ cs'.size = cs.size ∧ (∀ j, j < o ∨ o + vs.length ≤ j → cs'[j]? = cs[j]?) ∧ (∀ j, j < vs.length → o + j < cs.size → cs'[o + j]? = vs[j]?)
  | [], _, _, cs, h => ⟨cs, h, rfl, fun _ _ => rfl, fun j hj => absurd hj (Nat.not_lt_zero _)⟩
  | v :: r, o, w, cs, h => by
    obtain ⟨cs', h1, h2, h3, h4⟩ := setCells_block r (o + 1) (w.setCell ⟨g, o, none⟩ v) (cs.setIfInBounds o v) (block_setCell h)
    refine ⟨cs', h1, by simpa using h2, fun j hj => ?_, fun j hj hs => ?_⟩
    · rw [h3 j (by simp at hj; omega), Array.getElem?_setIfInBounds_ne (by simp at hj; omega)]
    · cases j with
      | zero =>
        rw [Nat.add_zero, h3 o (by omega), Array.getElem?_setIfInBounds_self_of_lt (by omega)]
        rfl
      | succ j =>
        have := h4 j (by simpa using hj) (by simp; omega)
        rw [show o + 1 + j = o + (j + 1) by omega] at this
        rw [this]
        rfl

theorem below_setCells {B g : Nat} {w0 : World} (hB : B ≤ g) : ∀ (vs : List Value) (o : Nat) (w : World), Below B w0 w → Below B w0 (w.setCells g o vs)
  | [], _, _, h => h
  | v :: r, o, _, h => below_setCells hB r (o + 1) _ (h.setCell hB v)

theorem setCells_whole {g : Nat} {t : TypeId} {fr : Nat × Nat} {w : World} {old : Array Value} (h : w.heap[g]? = some (.cells old t fr)) (vs : List Value) (hs : old.size = vs.length) : (w.setCells g 0 vs).heap[g]? = some (.cells vs.toArray t fr) := by
  obtain ⟨cs', h1, h2, _, h4⟩ := setCells_block vs 0 w old h
  have : cs' = vs.toArray := by
    apply Array.ext_getElem?
    intro j
    by_cases hj : j < vs.length
    · have := h4 j hj (by omega)
      rw [Nat.zero_add] at this
      rw [this]
      simp
    · rw [Array.getElem?_eq_none (by omega)]
      simp; omega
  rw [h1, this]

/-- A struct stored into a block of the call's own that it fills whole: behind it the world is a letter, of which that block and old memory are known. -/
theorem wpList_store_whole {P : Program} (w : World) {ops : Array Oper} {rest : List Oper} {op : Oper} {a : Act} {Q : Exit → Act → World → Prop} (hgd : op.guard = none) (ty : TypeId) (x y : Operand) (ho : op.op = .store ty x y)
    (g : Nat) (old cells : Array Value) (t : TypeId) (hx : a.eval x = .pointer (some ⟨g, 0, none⟩)) (hy : a.eval y = .agg cells) (hg : w.heap[g]? = some (.cells old t (0, 0))) (hsz : old.size = cells.size)
    (hi : (P.info? ty).map (·.size) = some cells.size) (h1 : cells.all (·.oneCell') = true) (B : Nat) (w0 : World) (hb : Below B w0 w) (hB : B ≤ g)
    (h : ∀ w', Hid (w'.heap[g]? = some (.cells cells t (0, 0))) → Hid (Below B w0 w') → Hid (∀ k, k ≠ g → w'.heap[k]? = w.heap[k]?) → wpList P ops Q rest (a.put op.dst undef) w') : wpList P ops Q (op :: rest) a w := by
  refine wpList_store_mid hgd ty x y ho g 0 cells hx hy (fun j hj => ?_) hi h1 (h _ (hid ?_) (hid (below_setCells hB _ _ _ hb)) (hid ?_))
  · rw [cell_of_row w g _ _ _ _ hg, frozen_of_row w g _ _ _ hg]
    exact ⟨by simp [hsz, hj], rfl⟩
  · have := setCells_whole hg cells.toList (by simpa using hsz)
    simpa using this
  · intro k hk
    have : ∀ (vs : List Value) (o : Nat) (w : World), (w.setCells g o vs).heap[k]? = w.heap[k]? := by
      intro vs
      induction vs with
      | nil => intro _ _; rfl
      | cons v r ih => intro o w; rw [World.setCells, ih, Below.heap_setCell _ _ _ _ hk]
    exact this _ _ _
end Go.Proofs.YbulkebiiDoor
