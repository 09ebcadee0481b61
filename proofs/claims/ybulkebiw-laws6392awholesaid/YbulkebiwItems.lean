import Derived.Test.YbulkebiwPtrs
namespace Go.Proofs.Ybulkebiw
open Go.RowKit

theorem ret_rows (a : Act) (p0 p1 p2 p3 p4 p5 : Option Addr) (w : World) (ha : a.tmps.getD 2 undef = .pointer (some ⟨w.heap.size, 0, none⟩)) (hd : a.defers = []) :
    bodyPost Yba.prog Yba.f5 (fun e w' => e = .returned (.agg (rows p0 p1 p2 p3 p4 p5)) ∧ Below w.heap.size w w') .ret a (w.alloc (.cells (rows p0 p1 p2 p3 p4 p5) 50)).drew :=
  bodyPost_ret_by (results_cell_row (p := 2) (ty := 50) Yba.results5 a.tmps _ w.heap.size 50 (rows p0 p1 p2 p3 p4 p5) (0, 0) _ ha (heap_alloc_new _ _) Yba.underlying50 rfl (by kernel_rfl)) hd
    ⟨rfl, ((Below.refl _ _).alloc (Nat.le_refl _) _).drew⟩

attribute [local go_sem] nil22 nil23 nil24 nil25 nil26 nil27 in
set_option maxHeartbeats 4000000 in
set_option maxRecDepth 100000 in
theorem items_any (g : Nat) (p0 p1 p2 p3 p4 p5 : Option Addr) (w : World) (c1 : w.cell? ⟨g, 1, none⟩ = some (.pointer p0)) (c2 : w.cell? ⟨g, 2, none⟩ = some (.pointer p1)) (c3 : w.cell? ⟨g, 3, none⟩ = some (.pointer p2))
    (c4 : w.cell? ⟨g, 4, none⟩ = some (.pointer p3)) (c5 : w.cell? ⟨g, 5, none⟩ = some (.pointer p4)) (c6 : w.cell? ⟨g, 6, none⟩ = some (.pointer p5)) :
    Calls Yba.prog 5 #[.pointer (some ⟨g, 0, none⟩)] w fun e w' => e = .returned (.agg (rows p0 p1 p2 p3 p4 p5)) ∧ Below w.heap.size w w' := by
  have hlt : g < w.heap.size := World.block_lt_of_cell? _ _ c1
  go_enter Yba.func5, Yba.ntmps5
  go_wp2
  dsimp only [List.append]
  go_region_held3 (fun w' => w'.cell? ⟨g, 1, none⟩ = some (.pointer p0) ∧ w'.cell? ⟨g, 2, none⟩ = some (.pointer p1) ∧ w'.cell? ⟨g, 3, none⟩ = some (.pointer p2) ∧ w'.cell? ⟨g, 4, none⟩ = some (.pointer p3) ∧ w'.cell? ⟨g, 5, none⟩ = some (.pointer p4) ∧ w'.cell? ⟨g, 6, none⟩ = some (.pointer p5)) (go_keep) (fail)
  go_step
  go_step
  go_step
  refine ret_rows _ p0 p1 p2 p3 p4 p5 w ?_ ?_
  · rfl
  · rfl
end Go.Proofs.Ybulkebiw
