import Derived.Test.YbulkebiiDoorStore
import Derived.Deep.RegionWith
namespace Go.Proofs.YbulkebiiDoor
open Go.RowKit

theorem Ybad.size36 : (Ybad.prog.info? 36).map (·.size) = some 4 := by kernel_rfl

set_option maxHeartbeats 4000000 in
set_option maxRecDepth 100000 in
theorem prefix_any (hi lo : Int) (n : Nat) (p6 p4 : Addr) (w : World) (hz : Zs w p6 p4) (hn : n ≤ 128) :
    Calls Ybad.prog 26 #[.agg #[.int .u64 hi, .int .u64 lo, .pointer (some p6)], .int .i64 n] w fun e w' =>
      e = .returned (.tuple #[.agg #[.int .u64 (bits .and .u64 hi (maskHi n)), .int .u64 (bits .and .u64 lo (maskLo n)), .pointer (some p6), .int .u8 (plusOne n)], .nilIface]) ∧ Below w.heap.size w w' := by
  have HZ := hid hz
  obtain ⟨l1, l2, l3⟩ := hz.lt
  have l0 : 0 < w.heap.size := by omega
  have k2 := hz.k2
  have k3 := hz.k3
  have q := eqIn_nil p6
  have q4 : ∀ d (o o' : Obj), (Op.equalIn (d + 1) 30 (.pointer (some p6)) (.pointer (some p4))).run Ybad.prog ((w.alloc o).alloc o') = .ok false ((w.alloc o).alloc o') := fun d o o' => by
    have h := hz.later (W := (w.alloc o).alloc o') (by go_grown)
    exact eqIn_other d h.ne h.m6 h.m4
  have b1 : (0 : Int) ≤ (n : Int) := by omega
  have b2 : (n : Int) ≤ 128 := by omega
  clear hz
  go_enter Ybad.func26, Ybad.ntmps26
  go_wp2
  go_region_with (first
    | (go_at_call 33; refine (mask6_any n _ hn).mono ?_; rintro e w1 ⟨rfl, rfl⟩)
    | (go_at_call 32; refine (and_any _ _ _ _ _).mono ?_; rintro e w1 ⟨rfl, rfl⟩))
  all_goals
    go_wp2_with fail
    refine (prefixFrom_any _ _ (n : Int) p6 p4 _ (HZ.out.later (by repeat' (first | exact Below.refl _ _ | assumption | refine Below.setCell ?_ ?_ _ | refine quiet_below _ _ ?_ _ | refine Below.drew ?_ | refine Below.alloc ?_ ?_ _ | go_size))) (by omega) (by omega)).mono ?_
    rintro e w1 ⟨rfl, rfl⟩
    go_wp2
    go_returns
    exact ⟨rfl, (by repeat' (first | exact Below.refl _ _ | assumption | refine Below.setCell ?_ ?_ _ | refine quiet_below _ _ ?_ _ | refine Below.drew ?_ | refine Below.alloc ?_ ?_ _ | go_size))⟩
end Go.Proofs.YbulkebiiDoor
