import Derived.Test.YbulkebiiDoorMask
namespace Go.Proofs.YbulkebiiDoor
open Go.RowKit

theorem quiet_below {W : World} (B : Nat) (w : World) (h : Below B w W) (k : Nat) : Below B w (W.drewN k) := ⟨h.os, h.tape, h.output, h.size, h.block⟩

set_option maxHeartbeats 4000000 in
set_option maxRecDepth 100000 in
theorem addrFrom16_any (x0 x1 x2 x3 x4 x5 x6 x7 x8 x9 x10 x11 x12 x13 x14 x15 : Int) (p6 p4 : Addr) (w : World) (hz : Zs w p6 p4) (h0 : byte x0) (h1 : byte x1) (h2 : byte x2) (h3 : byte x3) (h4 : byte x4) (h5 : byte x5) (h6 : byte x6) (h7 : byte x7) (h8 : byte x8) (h9 : byte x9) (h10 : byte x10) (h11 : byte x11) (h12 : byte x12) (h13 : byte x13) (h14 : byte x14) (h15 : byte x15) :
    Calls Ybad.prog 17 #[.agg #[.int .u8 x0, .int .u8 x1, .int .u8 x2, .int .u8 x3, .int .u8 x4, .int .u8 x5, .int .u8 x6, .int .u8 x7, .int .u8 x8, .int .u8 x9, .int .u8 x10, .int .u8 x11, .int .u8 x12, .int .u8 x13, .int .u8 x14, .int .u8 x15]] w fun e w' => e = .returned (.agg #[.int .u64 (be8 x0 x1 x2 x3 x4 x5 x6 x7), .int .u64 (be8 x8 x9 x10 x11 x12 x13 x14 x15), .pointer (some p6)]) ∧ Below w.heap.size w w' := by
  obtain ⟨l1, l2, l3⟩ := hz.lt
  have l0 : 0 < w.heap.size := by omega
  have k1 := hz.k1
  clear hz
  have HL := hid (fun (g o c : Nat) (W : World) => beUint64_any g o 8 c x0 x1 x2 x3 x4 x5 x6 x7 W (by omega) h0 h1 h2 h3 h4 h5 h6 h7)
  have HH := hid (fun (g o c : Nat) (W : World) => beUint64_any g o 8 c x8 x9 x10 x11 x12 x13 x14 x15 W (by omega) h8 h9 h10 h11 h12 h13 h14 h15)
  clear h0 h1 h2 h3 h4 h5 h6 h7 h8 h9 h10 h11 h12 h13 h14 h15
  go_enter Ybad.func17, Ybad.ntmps17
  go_wp2
  go_region_held3 (fun w' => w'.cell? ⟨1, 0, none⟩ = some (.pointer (some p6))) (first | go_keep | (exact cell_later (by repeat' (first | exact Below.refl _ _ | assumption | refine Below.setCell ?_ ?_ _ | refine quiet_below _ _ ?_ _ | refine Below.drew ?_ | refine Below.alloc ?_ ?_ _ | go_size)) k1))
    (first
      | (go_at_call_of 25 (Value.slice (some ⟨w.heap.size, 0, none⟩) 8 16); refine (HL.out _ _ _ _ (by simp) (by simp) (by simp) (by simp) (by simp) (by simp) (by simp) (by simp)).mono ?_; rintro e w2 ⟨rfl, k, rfl⟩)
      | (go_at_call 25; refine (HH.out _ _ _ _ (by simp) (by simp) (by simp) (by simp) (by simp) (by simp) (by simp) (by simp)).mono ?_; rintro e w2 ⟨rfl, k, rfl⟩))
  go_wp2
  go_returns
  exact ⟨rfl, (by repeat' (first | exact Below.refl _ _ | assumption | refine Below.setCell ?_ ?_ _ | refine quiet_below _ _ ?_ _ | refine Below.drew ?_ | refine Below.alloc ?_ ?_ _ | go_size))⟩
end Go.Proofs.YbulkebiiDoor
