import Derived.Test.YbulkebhuParts
namespace Go.Proofs.Ybulkebhu
open Go.RowKit

/-- As Twin, and the strings lie elsewhere than in the row gs. -/
def Twin3 (w : World) (g gs k : Nat) : Prop :=
  ∀ i, i < k → ∃ (I : Int) (a a' : Option Addr) (ss : List ByteArray) (c c' : Nat), w.cell? ⟨g, i * 2, none⟩ = some (.int .u64 I) ∧ w.cell? ⟨g, i * 2 + 1, none⟩ = some (.slice a ss.length c) ∧
    w.cell? ⟨gs, i * 2, none⟩ = some (.int .u64 I) ∧ w.cell? ⟨gs, i * 2 + 1, none⟩ = some (.slice a' ss.length c') ∧ a.isNone = a'.isNone ∧ Lies w a ss ∧ Lies w a' ss ∧ ss.length * 16 ≤ 140737488351232 ∧
    (∀ ad, a = some ad → Mine w ad.block ∧ ad.block ≠ gs) ∧ (∀ ad, a' = some ad → Mine w ad.block ∧ ad.block ≠ gs)

theorem Twin3.twin {w : World} {g gs k : Nat} (h : Twin3 w g gs k) : Twin w g gs k := fun i hi => by
  obtain ⟨I, a, a', ss, c, c', h1, h2, h3, h4, h5, h6, h7, h8, h9, _⟩ := h i hi
  exact ⟨I, a, a', ss, c, c', h1, h2, h3, h4, h5, h6, h7, h8, fun ad had => (h9 ad had).1⟩

theorem Twin3.later {w W : World} {g gs k : Nat} (h : Twin3 w g gs k) (hb : Below w.heap.size w W) : Twin3 W g gs k := fun i hi => by
  obtain ⟨I, a, a', ss, c, c', h1, h2, h3, h4, h5, h6, h7, h8, h9, h10⟩ := h i hi
  exact ⟨I, a, a', ss, c, c', cell_later hb h1, cell_later hb h2, cell_later hb h3, cell_later hb h4, h5, lies_later h6 hb, lies_later h7 hb, h8,
    fun ad had => ⟨(h9 ad had).1.same (hb.block _ (h9 ad had).1.lt), (h9 ad had).2⟩, fun ad had => ⟨(h10 ad had).1.same (hb.block _ (h10 ad had).1.lt), (h10 ad had).2⟩⟩

/-- What the loop that saves the memberships keeps. -/
def Loop3 (w0 w : World) (g gs N k : Nat) : Prop :=
  MS w0 w g N ∧ g ≠ gs ∧ w0.heap.size ≤ gs ∧ (∀ i, i < N → ∀ I a ss c, w.cell? ⟨g, i * 2, none⟩ = some (.int .u64 I) → w.cell? ⟨g, i * 2 + 1, none⟩ = some (.slice a ss c) → ∀ ad, a = some ad → ad.block ≠ gs) ∧
  (∃ sav : List Value, w.heap[gs]? = some (.cells sav.toArray 30 (0, 0)) ∧ sav.length = N * 2) ∧ Twin3 w g gs k

theorem setTwo_cell {W : World} {gs o : Nat} {x y : Value} {sav : List Value} (hs : W.heap[gs]? = some (.cells sav.toArray 30 (0, 0))) :
    ((W.setCell ⟨gs, o, none⟩ x).setCell ⟨gs, o + 1, none⟩ y).heap[gs]? = some (.cells ((sav.set o x).set (o + 1) y).toArray 30 (0, 0)) := by
  rw [block_setCell (block_setCell hs)]
  simp

theorem setTwo_grown (W : World) (gs o : Nat) (x y : Value) : W.grownBy ((W.setCell ⟨gs, o, none⟩ x).setCell ⟨gs, o + 1, none⟩ y) (some gs) :=
  (grown_setCell W gs o x).trans (grown_setCell _ gs (o + 1) y)

/-- A row's pair is stored at the place k. -/
theorem Loop3.step {w0 W : World} {g gs N k : Nat} {I : Int} {a a' : Option Addr} {ss : List ByteArray} {c c' : Nat} (h : Loop3 w0 W g gs N k) (hk : k < N)
    (h1 : W.cell? ⟨g, k * 2, none⟩ = some (.int .u64 I)) (h2 : W.cell? ⟨g, k * 2 + 1, none⟩ = some (.slice a ss.length c)) (h5 : a'.isNone = a.isNone) (h6 : Lies W a ss) (h7 : Lies W a' ss) (h8 : ss.length * 16 ≤ 140737488351232)
    (h9 : ∀ ad, a = some ad → Mine W ad.block) (h10 : ∀ ad, a' = some ad → Mine W ad.block ∧ ad.block ≠ gs) :
    Loop3 w0 ((W.setCell ⟨gs, k * 2, none⟩ (.int .u64 I)).setCell ⟨gs, k * 2 + 1, none⟩ (.slice a' ss.length c')) g gs N (k + 1) := by
  obtain ⟨hms, hne, h0, hap, ⟨sav, hs, hl⟩, ht⟩ := h
  have hgr := setTwo_grown W gs (k * 2) (.int .u64 I) (.slice a' ss.length c')
  have hblk := setTwo_cell (o := k * 2) (x := .int .u64 I) (y := .slice a' ss.length c') hs
  generalize hW : (W.setCell ⟨gs, k * 2, none⟩ (.int .u64 I)).setCell ⟨gs, k * 2 + 1, none⟩ (.slice a' ss.length c') = W' at hgr hblk
  have hcell : ∀ o, W'.cell? ⟨g, o, none⟩ = W.cell? ⟨g, o, none⟩ := fun o => World.cell?_of_block (hgr.block g hms.lt.2 (by simpa using hne))
  have hsv : ∀ o, W'.cell? ⟨gs, o, none⟩ = ((sav.set (k * 2) (.int .u64 I)).set (k * 2 + 1) (.slice a' ss.length c'))[o]? := fun o => by rw [cell_of_row W' gs o _ _ _ hblk]; simp
  have hsold : ∀ o, W.cell? ⟨gs, o, none⟩ = sav[o]? := fun o => by rw [cell_of_row W gs o _ _ _ hs]; simp
  have hbel : Below w0.heap.size w0 W' := hms.below.grown hgr hms.below.size (fun j hj => by cases hj; exact h0)
  have kept : ∀ {b : Option Addr} {s : List ByteArray}, Lies W b s → (∀ ad, b = some ad → Mine W ad.block ∧ ad.block ≠ gs) → Lies W' b s := fun hl hb => lies_kept hl (by
    rintro x ⟨ad, had, rfl⟩
    exact hgr.block _ (hb ad had).1.lt (by simpa using (hb ad had).2))
  have mine : ∀ {ad : Addr}, Mine W ad.block ∧ ad.block ≠ gs → Mine W' ad.block := fun h => h.1.same (hgr.block _ h.1.lt (by simpa using h.2))
  have hag : ∀ ad, a = some ad → ad.block ≠ gs := hap k hk I a ss.length c h1 h2
  refine ⟨?_, hne, h0, ?_, ⟨_, hblk, by simpa using hl⟩, ?_⟩
  · obtain ⟨cur, hg, hcl, hrow, hb, hg0⟩ := hms
    refine ⟨cur, by rw [hgr.block g (lt_of_block hg) (by simpa using hne)]; exact hg, hcl, fun i hi => ?_, hbel, hg0⟩
    obtain ⟨x, y, hx, hy, I', b, s, c'', rfl, rfl, hli, hsz, hbl⟩ := hrow i hi
    have e1 : W.cell? ⟨g, i * 2, none⟩ = some (.int .u64 I') := by rw [cell_of_row W g _ _ _ _ hg]; simpa using hx
    have e2 : W.cell? ⟨g, i * 2 + 1, none⟩ = some (.slice b s.length c'') := by rw [cell_of_row W g _ _ _ _ hg]; simpa using hy
    have hbg : ∀ ad, b = some ad → ad.block ≠ gs := hap i hi I' b s.length c'' e1 e2
    exact ⟨_, _, hx, hy, I', b, s, c'', rfl, rfl, kept hli (fun ad had => ⟨(hbl ad had).2, hbg ad had⟩), hsz, fun ad had => ⟨(hbl ad had).1, mine ⟨(hbl ad had).2, hbg ad had⟩⟩⟩
  · intro i hi I' b n c'' e1 e2
    rw [hcell] at e1 e2
    exact hap i hi I' b n c'' e1 e2
  · intro i hi
    by_cases hik : i = k
    · subst hik
      refine ⟨I, a, a', ss, c, c', by rw [hcell]; exact h1, by rw [hcell]; exact h2, ?_, ?_, h5.symm, kept h6 (fun ad had => ⟨h9 ad had, hag ad had⟩), kept h7 h10, h8, fun ad had => ⟨mine ⟨h9 ad had, hag ad had⟩, hag ad had⟩, fun ad had => ⟨mine (h10 ad had), (h10 ad had).2⟩⟩
      · rw [hsv, List.getElem?_set_ne (by omega), List.getElem?_set_self (by omega)]
      · rw [hsv, List.getElem?_set_self (by simp; omega)]
    · obtain ⟨I', b, b', s, d, d', e1, e2, e3, e4, e5, e6, e7, e8, e9, e10⟩ := ht i (by omega)
      rw [hsold] at e3 e4
      refine ⟨I', b, b', s, d, d', by rw [hcell]; exact e1, by rw [hcell]; exact e2, ?_, ?_, e5, kept e6 e9, kept e7 e10, e8, fun ad had => ⟨mine (e9 ad had), (e9 ad had).2⟩, fun ad had => ⟨mine (e10 ad had), (e10 ad had).2⟩⟩
      · rw [hsv, List.getElem?_set_ne (by omega), List.getElem?_set_ne (by omega)]; exact e3
      · rw [hsv, List.getElem?_set_ne (by omega), List.getElem?_set_ne (by omega)]; exact e4

theorem Loop3.later {w0 w W : World} {g gs N k : Nat} (h : Loop3 w0 w g gs N k) (hb : Below w.heap.size w W) : Loop3 w0 W g gs N k := by
  obtain ⟨hms, hne, h0, hap, ⟨sav, hs, hl⟩, ht⟩ := h
  refine ⟨hms.later hb, hne, h0, ?_, ⟨sav, by rw [hb.block gs (lt_of_block hs)]; exact hs, hl⟩, ht.later hb⟩
  intro i hi I a n c e1 e2
  rw [hb.cell (show (⟨g, _, none⟩ : Addr).block < _ from hms.lt.2)] at e1 e2
  exact hap i hi I a n c e1 e2
end Go.Proofs.Ybulkebhu
