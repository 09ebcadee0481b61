import Derived.Test.YbulkebiwEnt
namespace Go.Proofs.Ybulkebiw
open Go.RowKit
set_option linter.unusedVariables false
attribute [local go_sem] nil74 str9

set_option maxHeartbeats 4000000 in
set_option maxRecDepth 100000 in
theorem entry_some (gv gr gp n i b : Nat) (id : ByteArray) (W X : Int) (m : Option Addr) (t oi op : ByteArray) (oW oX : Int) (om ol : Option Addr) (pv : Int) (pid : ByteArray) (w : World) (hi : i < n)
    (v0 : w.cell? ⟨gv, 0, none⟩ = some (.slice (some ⟨gr, 0, none⟩) n n)) (v1 : w.cell? ⟨gv, 1, none⟩ = some (.slice (some ⟨gp, 0, none⟩) n n)) (hr : RecAt w gr i id W X m (some ⟨b, 0, none⟩))
    (hb : w.heap[b]? = some (.cells (E14 t oi op oW oX om ol) 91 (0, 0)))
    (hp : w.cell? ⟨gp, i, none⟩ = some (.int .i64 pv)) (hpv : pv < n) (hpid : 0 ≤ pv → w.cell? ⟨gr, pv.toNat * 6, none⟩ = some (.string pid)) :
    Calls Yba.prog 9 #[.pointer (some ⟨gv, 0, none⟩), .int .i64 i] w fun e w' => e = .returned (.agg (E14 t oi (if 0 ≤ pv then pid else op) oW oX om ol)) ∧ Below w.heap.size w w' := by
  obtain ⟨c0, c1, c2, c3, c4, c5⟩ := hr
  have b1 : (0 : Int) ≤ (i : Int) := by omega
  have b2 : (i : Int) < (n : Int) := by omega
  have l1 := World.block_lt_of_cell? _ _ v0
  have l2 := World.block_lt_of_cell? _ _ c0
  have l3 := World.block_lt_of_cell? _ _ hp
  have l4 := lt_of_block hb
  have d0 : w.cell? ⟨b, 0, none⟩ = some (.string t) := by rw [cell_of_row w b _ _ _ _ hb]; rfl
  have d1 : w.cell? ⟨b, 1, none⟩ = some (.string oi) := by rw [cell_of_row w b _ _ _ _ hb]; rfl
  have d2 : w.cell? ⟨b, 2, none⟩ = some (.string op) := by rw [cell_of_row w b _ _ _ _ hb]; rfl
  have d3 : w.cell? ⟨b, 3, none⟩ = some (.int .u64 oW) := by rw [cell_of_row w b _ _ _ _ hb]; rfl
  have d4 : w.cell? ⟨b, 4, none⟩ = some (.int .i64 oX) := by rw [cell_of_row w b _ _ _ _ hb]; rfl
  have d5 : w.cell? ⟨b, 5, none⟩ = some (.pointer none) := by rw [cell_of_row w b _ _ _ _ hb]; rfl
  have d6 : w.cell? ⟨b, 6, none⟩ = some (.pointer om) := by rw [cell_of_row w b _ _ _ _ hb]; rfl
  have d7 : w.cell? ⟨b, 7, none⟩ = some (.pointer none) := by rw [cell_of_row w b _ _ _ _ hb]; rfl
  have d8 : w.cell? ⟨b, 8, none⟩ = some (.pointer none) := by rw [cell_of_row w b _ _ _ _ hb]; rfl
  have d9 : w.cell? ⟨b, 9, none⟩ = some (.pointer ol) := by rw [cell_of_row w b _ _ _ _ hb]; rfl
  have d10 : w.cell? ⟨b, 10, none⟩ = some (.pointer none) := by rw [cell_of_row w b _ _ _ _ hb]; rfl
  have d11 : w.cell? ⟨b, 11, none⟩ = some (.pointer none) := by rw [cell_of_row w b _ _ _ _ hb]; rfl
  have d12 : w.cell? ⟨b, 12, none⟩ = some (.pointer none) := by rw [cell_of_row w b _ _ _ _ hb]; rfl
  have d13 : w.cell? ⟨b, 13, none⟩ = some (.pointer none) := by rw [cell_of_row w b _ _ _ _ hb]; rfl
  clear hb
  by_cases hpos : 0 ≤ pv
  · have cp := hpid hpos
    rw [if_pos hpos]
    clear hpid
    go_enter Yba.func9, Yba.ntmps9
    go_wp2
    go_region_held3 (fun w' => w'.cell? ⟨gr, i * 6, none⟩ = some (.string id) ∧ w'.cell? ⟨gr, i * 6 + 1, none⟩ = some (.int .u64 W) ∧ w'.cell? ⟨gr, i * 6 + 2, none⟩ = some (.int .i64 X) ∧ w'.cell? ⟨gr, i * 6 + 3, none⟩ = some (.pointer none) ∧ w'.cell? ⟨gr, i * 6 + 4, none⟩ = some (.pointer m)) (go_keep) (fail)
    go_wp2
    go_returns
    exact ⟨rfl, (by repeat' (first | exact Below.refl _ _ | assumption | refine Below.setCell ?_ ?_ _ | refine Below.drew ?_ | refine Below.alloc ?_ ?_ _ | go_size))⟩
  · rw [if_neg hpos]
    clear hpid
    go_enter Yba.func9, Yba.ntmps9
    go_wp2
    go_region_held3 (fun w' => w'.cell? ⟨gr, i * 6, none⟩ = some (.string id) ∧ w'.cell? ⟨gr, i * 6 + 1, none⟩ = some (.int .u64 W) ∧ w'.cell? ⟨gr, i * 6 + 2, none⟩ = some (.int .i64 X) ∧ w'.cell? ⟨gr, i * 6 + 3, none⟩ = some (.pointer none) ∧ w'.cell? ⟨gr, i * 6 + 4, none⟩ = some (.pointer m)) (go_keep) (fail)
    go_wp2
    go_returns
    exact ⟨rfl, (by repeat' (first | exact Below.refl _ _ | assumption | refine Below.setCell ?_ ?_ _ | refine Below.drew ?_ | refine Below.alloc ?_ ?_ _ | go_size))⟩
end Go.Proofs.Ybulkebiw
