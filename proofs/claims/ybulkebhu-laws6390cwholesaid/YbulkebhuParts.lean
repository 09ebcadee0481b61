import Derived.Test.YbulkebhuMembers
import Derived.Handy
import Derived.LaidEqlPtr
namespace Go.Proofs.Ybulkebhu
open Go.RowKit

theorem Yba.info30 : (Yba.prog.info? 30).map (fun i => (i.zero, i.size, i.bytes)) = some (some (.agg #[.int .u64 0, .slice none 0 0]), 2, 32) := by kernel_rfl

/-- The code from its n-th statement on. -/
def dropSeq : Nat → Code → Code
  | 0, c => c
  | n + 1, .seq _ b => dropSeq n b
  | _ + 1, c => c

/-- One membership in its two cells: a number and a slice of strings that lie elsewhere than in block g. -/
def Cell2 (w : World) (g : Nat) (x y : Value) : Prop :=
  ∃ (I : Int) (a : Option Addr) (ss : List ByteArray) (c : Nat), x = .int .u64 I ∧ y = .slice a ss.length c ∧ Lies w a ss ∧ ss.length * 16 ≤ 140737488351232 ∧ ∀ ad, a = some ad → ad.block ≠ g ∧ Mine w ad.block

def Row (w : World) (g : Nat) (xs : List Value) (k : Nat) : Prop := ∀ i, i < k → ∃ x y, xs[i * 2]? = some x ∧ xs[i * 2 + 1]? = some y ∧ Cell2 w g x y

theorem lies_kept {w w' : World} {a : Option Addr} {ss : List ByteArray} (h : Lies w a ss) (hk : ∀ b, (∃ ad, a = some ad ∧ ad.block = b) → w'.heap[b]? = w.heap[b]?) : Lies w' a ss := by
  rcases h with rfl | ⟨b, off, rfl, hc⟩
  · exact Or.inl rfl
  · exact Or.inr ⟨b, off, rfl, fun i hi => (World.cell?_of_block (hk b ⟨_, rfl, rfl⟩)).trans (hc i hi)⟩

theorem Cell2.grown {w w' : World} {g : Nat} {x y : Value} (h : Cell2 w g x y) (hg : w.grownBy w' (some g)) : Cell2 w' g x y := by
  obtain ⟨I, a, ss, c, rfl, rfl, hl, hs, hb⟩ := h
  refine ⟨I, a, ss, c, rfl, rfl, lies_kept hl ?_, hs, fun ad had => ⟨(hb ad had).1, (hb ad had).2.same (hg.block _ (hb ad had).2.lt (by simpa using (hb ad had).1))⟩⟩
  rintro b ⟨ad, had, rfl⟩
  exact hg.block _ (hb ad had).2.lt (by simpa using (hb ad had).1)

theorem Cell2.moved {w : World} {g g' : Nat} {x y : Value} (h : Cell2 w g x y) (hg : w.heap.size ≤ g') : Cell2 w g' x y := by
  obtain ⟨I, a, ss, c, rfl, rfl, hl, hs, hb⟩ := h
  exact ⟨I, a, ss, c, rfl, rfl, hl, hs, fun ad had => ⟨by have := (hb ad had).2.lt; omega, (hb ad had).2⟩⟩

theorem Row.grown {w w' : World} {g : Nat} {xs : List Value} {k : Nat} (h : Row w g xs k) (hg : w.grownBy w' (some g)) : Row w' g xs k := fun i hi => by
  obtain ⟨x, y, hx, hy, hc⟩ := h i hi
  exact ⟨x, y, hx, hy, hc.grown hg⟩

theorem Row.moved {w : World} {g g' : Nat} {xs : List Value} {k : Nat} (h : Row w g xs k) (hg : w.heap.size ≤ g') : Row w g' xs k := fun i hi => by
  obtain ⟨x, y, hx, hy, hc⟩ := h i hi
  exact ⟨x, y, hx, hy, hc.moved hg⟩

/-- What has been gathered after k rounds. -/
def Loop2 (w0 w : World) (k : Nat) (v : Value) : Prop :=
  ∃ g cp xs, v = .slice (some ⟨g, 0, none⟩) k cp ∧ w.ownsRow w0.heap.size 30 2 (.slice (some ⟨g, 0, none⟩) k cp) k xs ∧ Row w g xs k ∧ Below w0.heap.size w0 w

theorem own_later {w W : World} {B : Nat} {e : TypeId} {size k : Nat} {v : Value} {xs : List Value} (h : w.ownsRow B e size v k xs) (hb : Below w.heap.size w W) : W.ownsRow B e size v k xs :=
  h.kept (row := none) (grown_below hb) (by cases hv : v.ownBlock <;> simp)

theorem owns_len {w : World} {B : Nat} {e : TypeId} {size k : Nat} {v : Value} {xs : List Value} (h : w.ownsRow B e size v k xs) : xs.length = k * size := h.1

theorem owns_lt {w : World} {B : Nat} {e : TypeId} {size k g n cp : Nat} {xs : List Value} (h : w.ownsRow B e size (.slice (some ⟨g, 0, none⟩) n cp) k xs) : B ≤ g ∧ g < w.heap.size := h.lt g rfl

/-- One round's append. W: the world in which the new element has been laid. -/
theorem loop2_step {w0 W w2 : World} {k g g2 cp2 : Nat} {xs : List Value} {x y : Value} (hb : Below w0.heap.size w0 W) (hg0 : w0.heap.size ≤ g) (hl : xs.length = k * 2) (hrow : Row W g xs k) (hnew : Cell2 W g x y)
    (hown2 : w2.ownsRow w0.heap.size 30 2 (.slice (some ⟨g2, 0, none⟩) (k + 1) cp2) (k + 1) (xs ++ [x, y])) (hgrow : W.grownBy w2 (some g)) (hat : g = g2 ∨ g2 = W.heap.size) : Loop2 w0 w2 (k + 1) (.slice (some ⟨g2, 0, none⟩) (k + 1) cp2) := by
  refine ⟨g2, cp2, _, rfl, hown2, ?_, hb.grown hgrow hb.size (fun j hj => by cases hj; exact hg0)⟩
  have key : Row W g (xs ++ [x, y]) (k + 1) := by
    intro i hi
    by_cases hik : i < k
    · obtain ⟨x', y', hx, hy, hc⟩ := hrow i hik
      exact ⟨x', y', by rw [List.getElem?_append_left (by omega)]; exact hx, by rw [List.getElem?_append_left (by omega)]; exact hy, hc⟩
    · obtain rfl : i = k := by omega
      exact ⟨x, y, by rw [List.getElem?_append_right (by omega)]; simp [hl], by rw [List.getElem?_append_right (by omega)]; simp [hl], hnew⟩
  rcases hat with rfl | rfl
  · exact key.grown hgrow
  · intro i hi
    obtain ⟨x', y', hx, hy, I, a, ss, c, rfl, rfl, hli, hs, hbl⟩ := key i hi
    refine ⟨_, _, hx, hy, I, a, ss, c, rfl, rfl, lies_kept hli ?_, hs, fun ad had => ⟨by have := (hbl ad had).2.lt; omega, (hbl ad had).2.same (hgrow.block _ (hbl ad had).2.lt (by simpa using (hbl ad had).1))⟩⟩
    rintro b ⟨ad, had, rfl⟩
    exact hgrow.block _ (hbl ad had).2.lt (by simpa using (hbl ad had).1)

/-- The memberships in their block g: k of them. -/
def MS (w0 w : World) (g k : Nat) : Prop :=
  ∃ cur : List Value, w.heap[g]? = some (.cells cur.toArray 30 (0, 0)) ∧ k * 2 ≤ cur.length ∧ Row w g cur k ∧ Below w0.heap.size w0 w ∧ w0.heap.size ≤ g

theorem loop2_ms {w0 w : World} {k : Nat} {v : Value} (h : Loop2 w0 w k v) : ∃ g cp, v = .slice (some ⟨g, 0, none⟩) k cp ∧ MS w0 w g k := by
  obtain ⟨g, cp, xs, rfl, hown, hrow, hb⟩ := h
  refine ⟨g, cp, rfl, ?_⟩
  have hg := (owns_lt hown).1
  obtain ⟨hl, hor⟩ := hown
  rcases hor with ⟨h0, _⟩ | ⟨g', cap', cur, hv, _, hh, hle, _, hs, ht⟩
  · simp at h0
  · simp at hv
    obtain ⟨rfl, rfl⟩ := hv
    have hk : k * 2 ≤ cur.toList.length := by simp [hs]; omega
    refine ⟨cur.toList, by simpa using hh, hk, fun i hi => ?_, hb, hg⟩
    obtain ⟨x, y, hx, hy, hc⟩ := hrow i hi
    rw [← ht, List.getElem?_take] at hx hy
    rw [if_pos (by omega)] at hx hy
    exact ⟨x, y, hx, hy, hc⟩

theorem MS.cells {w0 w : World} {g k i : Nat} (h : MS w0 w g k) (hi : i < k) :
    ∃ (I : Int) (a : Option Addr) (ss : List ByteArray) (c : Nat), w.cell? ⟨g, i * 2, none⟩ = some (.int .u64 I) ∧ w.cell? ⟨g, i * 2 + 1, none⟩ = some (.slice a ss.length c) ∧ Lies w a ss ∧ ss.length * 16 ≤ 140737488351232 ∧
      (∀ ad, a = some ad → ad.block ≠ g ∧ Mine w ad.block) ∧ w.frozen? ⟨g, i * 2 + 1, none⟩ = false := by
  obtain ⟨cur, hg, hl, hrow, hb, h0⟩ := h
  obtain ⟨x, y, hx, hy, I, a, ss, c, rfl, rfl, hli, hs, hbl⟩ := hrow i hi
  exact ⟨I, a, ss, c, by rw [cell_of_row w g _ _ _ _ hg]; simpa using hx, by rw [cell_of_row w g _ _ _ _ hg]; simpa using hy, hli, hs, hbl, frozen_of_row w g _ _ _ hg⟩

theorem MS.lt {w0 w : World} {g k : Nat} (h : MS w0 w g k) : w0.heap.size ≤ g ∧ g < w.heap.size := by
  obtain ⟨cur, hg, _, _, _, h0⟩ := h
  exact ⟨h0, lt_of_block hg⟩

theorem MS.below {w0 w : World} {g k : Nat} (h : MS w0 w g k) : Below w0.heap.size w0 w := by
  obtain ⟨cur, _, _, _, hb, _⟩ := h
  exact hb

theorem MS.later {w0 w W : World} {g k : Nat} (h : MS w0 w g k) (hb : Below w.heap.size w W) : MS w0 W g k := by
  obtain ⟨cur, hg, hl, hrow, hb0, h0⟩ := h
  exact ⟨cur, by rw [hb.block g (lt_of_block hg)]; exact hg, hl, hrow.grown (grown_below hb), hb0.trans (hb.mono hb0.size), h0⟩

/-- The last membership's members are laid anew: two strings in a new block. -/
theorem MS.stored {w0 w : World} {g m : Nat} (h : MS w0 w g (m + 1)) (s t : ByteArray) :
    MS w0 ((w.alloc (.cells #[.string s, .string t] 9)).setCell ⟨g, m * 2 + 1, none⟩ (.slice (some ⟨w.heap.size, 0, none⟩) 2 2)) g (m + 1) := by
  have h1 := h.later ((Below.refl _ _).alloc (Nat.le_refl _) (.cells #[.string s, .string t] 9))
  have hlt := h.lt
  obtain ⟨cur, hg, hl, hrow, hb0, h0⟩ := h1
  have hgr := grown_setCell (w.alloc (.cells #[.string s, .string t] 9)) g (m * 2 + 1) (.slice (some ⟨w.heap.size, 0, none⟩) 2 2)
  refine ⟨cur.set (m * 2 + 1) (.slice (some ⟨w.heap.size, 0, none⟩) 2 2), ?_, by simpa using hl, fun i hi => ?_, hb0.setCell h0 _, h0⟩
  · rw [block_setCell hg]
    simp
  · obtain ⟨x, y, hx, hy, hc⟩ := hrow i hi
    have hx' : (cur.set (m * 2 + 1) (.slice (some ⟨w.heap.size, 0, none⟩) 2 2))[i * 2]? = some x := by
      rw [List.getElem?_set_ne (by omega)]; exact hx
    by_cases him : i = m
    · subst him
      refine ⟨x, _, hx', by rw [List.getElem?_set_self (by omega)], ?_⟩
      obtain ⟨I, a, ss, c, rfl, _, _, _, _⟩ := hc.grown hgr
      refine ⟨I, some ⟨w.heap.size, 0, none⟩, [s, t], 2, rfl, rfl, Or.inr ⟨w.heap.size, 0, rfl, fun j hj => ?_⟩, by simp, fun ad had => ?_⟩
      · refine hgr.cell ?_ (by simp; omega)
        match j, hj with
        | 0, _ => simp
        | 1, _ => simp
      · cases had
        exact ⟨by simp; omega, _, _, (hgr.block w.heap.size (by simp) (by simp; omega)).trans (heap_alloc_new _ _)⟩
    · exact ⟨x, y, hx', by rw [List.getElem?_set_ne (by omega)]; exact hy, hc.grown hgr⟩

theorem MS.stored' {w0 w : World} {g m : Nat} (h : MS w0 w g (m + 1)) (s t : ByteArray) :
    MS w0 ((w.setCell ⟨g, m * 2 + 1, none⟩ (.slice (some ⟨w.heap.size, 0, none⟩) 2 2)).alloc (.cells #[.string s, .string t] 9)) g (m + 1) := by
  rw [← World.setCell_alloc_past _ _ _ _ h.lt.2]
  exact h.stored s t

/-! ### The rows ms and saved, side by side -/
/-- Of each of the first k memberships: the same number, the same strings (nil or not alike) in the row g and in the row gs. -/
def Twin (w : World) (g gs k : Nat) : Prop :=
  ∀ i, i < k → ∃ (I : Int) (a a' : Option Addr) (ss : List ByteArray) (c c' : Nat), w.cell? ⟨g, i * 2, none⟩ = some (.int .u64 I) ∧ w.cell? ⟨g, i * 2 + 1, none⟩ = some (.slice a ss.length c) ∧
    w.cell? ⟨gs, i * 2, none⟩ = some (.int .u64 I) ∧ w.cell? ⟨gs, i * 2 + 1, none⟩ = some (.slice a' ss.length c') ∧ a.isNone = a'.isNone ∧ Lies w a ss ∧ Lies w a' ss ∧ ss.length * 16 ≤ 140737488351232 ∧ ∀ ad, a = some ad → Mine w ad.block

theorem Twin.later {w W : World} {g gs k : Nat} (h : Twin w g gs k) (hb : Below w.heap.size w W) : Twin W g gs k := fun i hi => by
  obtain ⟨I, a, a', ss, c, c', h1, h2, h3, h4, h5, h6, h7, h8, h9⟩ := h i hi
  exact ⟨I, a, a', ss, c, c', cell_later hb h1, cell_later hb h2, cell_later hb h3, cell_later hb h4, h5, lies_later h6 hb, lies_later h7 hb, h8, fun ad had => (h9 ad had).same (hb.block _ (h9 ad had).lt)⟩

/-- How many times Leased is asked; whether the holder is alone. -/
def wlOf (ds : List ByteArray) (q : Option ByteArray) : Int := match q with | none => 0 | some o => if has ds o then 1 else 0
def aloneOf (ds : List ByteArray) (le : Bool) (q : Option ByteArray) : Bool := match q with | none => false | some o => has ds o && le

/-- A slice of the strings dl, nil just where there are none. -/
def Few (w : World) (v : Value) (dl : List ByteArray) : Prop := ∃ a c, v = .slice a dl.length c ∧ Lies w a dl ∧ a.isNone = dl.isEmpty

theorem Few.later {w W : World} {v : Value} {dl : List ByteArray} (h : Few w v dl) (hb : Below w.heap.size w W) : Few W v dl := by
  obtain ⟨a, c, h1, h2, h3⟩ := h
  exact ⟨a, c, h1, lies_later h2 hb, h3⟩

/-! ### Pointers compared -/
theorem Yba.info9' : ∃ j, Yba.prog.info? 9 = some j ∧ j.size ≠ 0 := by
  obtain ⟨i0, hi, _, hz1, _⟩ := info_parts Yba.info9
  exact ⟨i0, hi, by omega⟩

theorem ptr_other {w : World} {a b : Addr} (hne : a ≠ b) (ha : Mine w a.block) (hb : Mine w b.block) : (binOp .eql 71 (.pointer (some a)) (.pointer (some b))).run Yba.prog w = .ok (.bool false) w := by
  obtain ⟨j, hj, hs⟩ := Yba.info9'
  obtain ⟨ca, ta, ha⟩ := ha
  obtain ⟨cb, tb, hb⟩ := hb
  exact run_eql_ptr_other w Yba.underlying71 hj hs hne ha hb

theorem ptr_same (w : World) (a : Addr) : (binOp .neq 71 (.pointer (some a)) (.pointer (some a))).run Yba.prog w = .ok (.bool false) w := by
  obtain ⟨j, hj, hs⟩ := Yba.info9'
  have h : ∀ d : Nat, (Op.equalIn (d + 1) 71 (.pointer (some a)) (.pointer (some a))).run Yba.prog w = .ok true w := fun d => by
    simp [Op.equalIn, run_underlying Yba.underlying71, sizeOf, typeInfo, hj, run_sameAddr_same]
  simp only [binOp]
  simp [Op.equal, Op.maxDepth, h 9999]

/-! ### What the law expects -/
/-- q: whom Down is asked of, where the last membership is (I, ss). -/
def Asks (I commit : Int) (ss : List ByteArray) (self : ByteArray) (q : Option ByteArray) : Prop :=
  (q = none ∧ (ss.length ≠ 2 ∨ (ss.length = 2 ∧ commit < I) ∨ ∃ s0 s1, ss = [s0, s1] ∧ I ≤ commit ∧ (s0.toList == self.toList) = false ∧ (s1.toList == self.toList) = false)) ∨
  ∃ s0 s1 o, ss = [s0, s1] ∧ q = some o ∧ I ≤ commit ∧ (((s0.toList == self.toList) = true ∧ o = s1) ∨ ((s0.toList == self.toList) = false ∧ (s1.toList == self.toList) = true ∧ o = s0))

theorem lies_two {w : World} {a : Option Addr} {x y : ByteArray} (h : Lies w a [x, y]) : ∃ b off, a = some ⟨b, off, none⟩ ∧ w.cell? ⟨b, off, none⟩ = some (.string x) ∧ w.cell? ⟨b, off + 1, none⟩ = some (.string y) := by
  rcases h with h | ⟨b, off, rfl, hc⟩
  · cases h
  · exact ⟨b, off, rfl, by simpa using hc 0 (by simp), by simpa using hc 1 (by simp)⟩

theorem res_later {w W : World} {g m : Nat} {res : Value} {self : ByteArray} {al : Bool}
    (hres : (al = true ∧ ∃ g2 b off c, res = .slice (some ⟨g2, 0, none⟩) 1 1 ∧ w.cell? ⟨g2, 0, none⟩ = some (.string self) ∧ w.cell? ⟨g, m * 2 + 1, none⟩ = some (.slice (some ⟨b, off, none⟩) 2 c) ∧ g2 ≠ b ∧ Mine w g2 ∧ Mine w b) ∨
      (al = false ∧ ∃ a n c, res = .slice a n c ∧ w.cell? ⟨g, m * 2 + 1, none⟩ = some (.slice a n c) ∧ n ≤ maxLen ∧ (n = 0 ∨ ∃ b off, a = some ⟨b, off, none⟩))) (hb : Below w.heap.size w W) :
    (al = true ∧ ∃ g2 b off c, res = .slice (some ⟨g2, 0, none⟩) 1 1 ∧ W.cell? ⟨g2, 0, none⟩ = some (.string self) ∧ W.cell? ⟨g, m * 2 + 1, none⟩ = some (.slice (some ⟨b, off, none⟩) 2 c) ∧ g2 ≠ b ∧ Mine W g2 ∧ Mine W b) ∨
      (al = false ∧ ∃ a n c, res = .slice a n c ∧ W.cell? ⟨g, m * 2 + 1, none⟩ = some (.slice a n c) ∧ n ≤ maxLen ∧ (n = 0 ∨ ∃ b off, a = some ⟨b, off, none⟩)) := by
  rcases hres with ⟨h0, g2, b, off, c, h1, h2, h3, h4, h5, h6⟩ | ⟨h0, a, n, c, h1, h2, h3, h4⟩
  · exact Or.inl ⟨h0, g2, b, off, c, h1, cell_later hb h2, cell_later hb h3, h4, h5.same (hb.block _ h5.lt), h6.same (hb.block _ h6.lt)⟩
  · exact Or.inr ⟨h0, a, n, c, h1, cell_later hb h2, h3, h4⟩

theorem few_one {w : World} {b : Nat} {o : ByteArray} {c : Nat} (h : w.cell? ⟨b, 0, none⟩ = some (.string o)) : Few w (.slice (some ⟨b, 0, none⟩) 1 c) (some o).toList := by
  refine ⟨_, _, rfl, Or.inr ⟨b, 0, rfl, fun i hi => ?_⟩, rfl⟩
  obtain rfl : i = 0 := by simpa using hi
  simpa using h
end Go.Proofs.Ybulkebhu
