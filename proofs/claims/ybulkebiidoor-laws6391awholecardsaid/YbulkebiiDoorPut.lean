import Derived.Test.YbulkebiiDoorMasked
namespace Go.Proofs.YbulkebiiDoor
open Go.RowKit

set_option maxHeartbeats 4000000 in
set_option maxRecDepth 100000 in
theorem put_any (g o n c : Nat) (v : Int) (h0 : 0 ≤ v) (h1 : v < 18446744073709551616) (x0 x1 x2 x3 x4 x5 x6 x7 : Value) (w : World) (hn : 8 ≤ n)
    (c0 : w.cell? ⟨g, o, none⟩ = some x0) (c1 : w.cell? ⟨g, o + 1, none⟩ = some x1) (c2 : w.cell? ⟨g, o + 2, none⟩ = some x2) (c3 : w.cell? ⟨g, o + 3, none⟩ = some x3) (c4 : w.cell? ⟨g, o + 4, none⟩ = some x4) (c5 : w.cell? ⟨g, o + 5, none⟩ = some x5) (c6 : w.cell? ⟨g, o + 6, none⟩ = some x6) (c7 : w.cell? ⟨g, o + 7, none⟩ = some x7)
    (f0 : w.frozen? ⟨g, o, none⟩ = false) (f1 : w.frozen? ⟨g, o + 1, none⟩ = false) (f2 : w.frozen? ⟨g, o + 2, none⟩ = false) (f3 : w.frozen? ⟨g, o + 3, none⟩ = false) (f4 : w.frozen? ⟨g, o + 4, none⟩ = false) (f5 : w.frozen? ⟨g, o + 5, none⟩ = false) (f6 : w.frozen? ⟨g, o + 6, none⟩ = false) (f7 : w.frozen? ⟨g, o + 7, none⟩ = false) :
    Calls Ybad.prog 19 #[.slice (some ⟨g, o, none⟩) n c, .int .u64 v] w fun e w' => e = .returned (.tuple #[]) ∧ w' = ((((((((w.setCell ⟨g, o, none⟩ (.int .u8 (v / 72057594037927936))).setCell ⟨g, o + 1, none⟩ (.int .u8 (v / 281474976710656 % 256))).setCell ⟨g, o + 2, none⟩ (.int .u8 (v / 1099511627776 % 256))).setCell ⟨g, o + 3, none⟩ (.int .u8 (v / 4294967296 % 256))).setCell ⟨g, o + 4, none⟩ (.int .u8 (v / 16777216 % 256))).setCell ⟨g, o + 5, none⟩ (.int .u8 (v / 65536 % 256))).setCell ⟨g, o + 6, none⟩ (.int .u8 (v / 256 % 256))).setCell ⟨g, o + 7, none⟩ (.int .u8 (v % 256))) := by
  have q0 : 0 < n := by omega
  have q1 : (1 : Int) < (n : Int) := by omega
  have q2 : (2 : Int) < (n : Int) := by omega
  have q3 : (3 : Int) < (n : Int) := by omega
  have q4 : (4 : Int) < (n : Int) := by omega
  have q5 : (5 : Int) < (n : Int) := by omega
  have q6 : (6 : Int) < (n : Int) := by omega
  have q7 : (7 : Int) < (n : Int) := by omega
  go_enter Ybad.func19, Ybad.ntmps19
  go_wp2
  go_end0
  exact ⟨rfl, rfl⟩

set_option maxHeartbeats 8000000 in
set_option maxRecDepth 100000 in
theorem as16_any (hi lo : Int) (p : Option Addr) (w : World) (h0 : 0 ≤ hi) (h1 : hi < 18446744073709551616) (l0 : 0 ≤ lo) (l1 : lo < 18446744073709551616) :
    Calls Ybad.prog 10 #[.agg #[.int .u64 hi, .int .u64 lo, .pointer p]] w fun e w' => e = .returned (.agg #[.int .u8 (hi / 72057594037927936), .int .u8 (hi / 281474976710656 % 256), .int .u8 (hi / 1099511627776 % 256), .int .u8 (hi / 4294967296 % 256), .int .u8 (hi / 16777216 % 256), .int .u8 (hi / 65536 % 256), .int .u8 (hi / 256 % 256), .int .u8 (hi % 256), .int .u8 (lo / 72057594037927936), .int .u8 (lo / 281474976710656 % 256), .int .u8 (lo / 1099511627776 % 256), .int .u8 (lo / 4294967296 % 256), .int .u8 (lo / 16777216 % 256), .int .u8 (lo / 65536 % 256), .int .u8 (lo / 256 % 256), .int .u8 (lo % 256)]) ∧ Below w.heap.size w w' := by
  go_enter Ybad.func10, Ybad.ntmps10
  go_wp2
  go_region_held3 (fun w' => w'.cell? ⟨w.heap.size, 0, none⟩ = some (.int .u64 hi) ∧ w'.cell? ⟨w.heap.size, 1, none⟩ = some (.int .u64 lo)) (refine ⟨?_, ?_⟩ <;> (first | (go_keep; done) | (simp [*, go_sem]; done)))
    (first | (go_at_call 19; refine (put_any _ _ 8 _ hi h0 h1 (.int .u8 0) (.int .u8 0) (.int .u8 0) (.int .u8 0) (.int .u8 0) (.int .u8 0) (.int .u8 0) (.int .u8 0) _ (by omega) (by simp [go_sem]) (by simp [go_sem]) (by simp [go_sem]) (by simp [go_sem]) (by simp [go_sem]) (by simp [go_sem]) (by simp [go_sem]) (by simp [go_sem]) (by simp [go_sem]) (by simp [go_sem]) (by simp [go_sem]) (by simp [go_sem]) (by simp [go_sem]) (by simp [go_sem]) (by simp [go_sem]) (by simp [go_sem])).mono ?_; rintro e w1 ⟨rfl, rfl⟩))
  go_wp2
  go_region_held3 (fun w' => w'.cell? ⟨w.heap.size, 0, none⟩ = some (.int .u64 hi) ∧ w'.cell? ⟨w.heap.size, 1, none⟩ = some (.int .u64 lo)) (refine ⟨?_, ?_⟩ <;> (first | (go_keep; done) | (simp [*, go_sem]; done)))
    (first | (go_at_call 19; refine (put_any _ _ 8 _ lo l0 l1 (.int .u8 0) (.int .u8 0) (.int .u8 0) (.int .u8 0) (.int .u8 0) (.int .u8 0) (.int .u8 0) (.int .u8 0) _ (by omega) (by simp [go_sem]) (by simp [go_sem]) (by simp [go_sem]) (by simp [go_sem]) (by simp [go_sem]) (by simp [go_sem]) (by simp [go_sem]) (by simp [go_sem]) (by simp [go_sem]) (by simp [go_sem]) (by simp [go_sem]) (by simp [go_sem]) (by simp [go_sem]) (by simp [go_sem]) (by simp [go_sem]) (by simp [go_sem])).mono ?_; rintro e w1 ⟨rfl, rfl⟩))
  go_wp2
  go_returns
  exact ⟨rfl, (by repeat' (first | exact Below.refl _ _ | assumption | refine Below.setCell ?_ ?_ _ | refine quiet_below _ _ ?_ _ | refine Below.drew ?_ | refine Below.alloc ?_ ?_ _ | go_size))⟩
end Go.Proofs.YbulkebiiDoor
