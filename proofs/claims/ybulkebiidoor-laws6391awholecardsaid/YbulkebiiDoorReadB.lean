import Derived.Test.YbulkebiiDoorRead
namespace Go.Proofs.YbulkebiiDoor
open Go.RowKit
set_option linter.unusedVariables false

/-- The code from its n-th statement on. -/
def dropSeq : Nat → Code → Code
  | 0, c => c
  | n + 1, .seq _ b => dropSeq n b
  | _ + 1, c => c

set_option maxHeartbeats 4000000 in
set_option maxRecDepth 100000 in
theorem readB1 {u0 u6 u8 u9 u10 u11 u12 u13 u14 u15 u16 u17 u18 u19 u20 u21 u22 u23 u24 u25 u26 u27 u28 u29 u30 u31 u32 u33 u34 u35 u36 u37 u38 u39 u40 u41 u42 u43 u44 u45 u46 u47 u48 u49 u50 : Value} (code flags vendor : Int) (a : Option Addr) (n c : Nat) (zs : List Int) (te : TypeId) (ev : Value) (p6 p4 : Addr) (w0 w : World) (g1 g2 g7 m fl fc : Nat) (fa : Option Addr) (hi lo : Int)
    (hn : n = zs.length) (hb : Below w0.heap.size w0 w) (hz : Zs w p6 p4) (k0 : w.cell? ⟨0, 0, none⟩ = some (.iface te ev))
    (h1 : w.heap[g1]? = some (.cells #[.int .u32 code, .int .u8 flags, .int .u32 vendor, .slice a n c] 26 (0, 0))) (h2 : w.heap[g2]? = some (.cells #[.int .u64 0, .int .u64 0, .pointer none, .int .u8 0] 36 (0, 0))) (h7 : w.heap[g7]? = some (.cells #[.int .u64 hi, .int .u64 lo, .pointer (some p6), .int .u8 (plusOne m)] 36 (0, 0)))
    (h20 : w0.heap.size ≤ g2) (h27 : g2 ≠ g7) (h12 : g1 ≠ g2) (hfl : fl ≤ 16) (hlt : fl * 8 < m) (hg : good zs = false) :
    Code.wp Ybad.prog (dropSeq 6 (Ybad.f5.body.getD .skip)) (bodyPost Ybad.prog Ybad.f5 (ReadPost w0 code flags vendor a c zs te ev p6))
      ⟨#[u0, .pointer (some ⟨g1, 0, none⟩), .pointer (some ⟨g2, 0, none⟩), .nilIface, .int .i64 m, .slice fa fl fc, u6, .pointer (some ⟨g7, 0, none⟩), u8, u9, u10, u11, u12, u13, u14, u15, u16, u17, u18, u19, u20, u21, u22, u23, u24, u25, u26, u27, u28, u29, u30, u31, u32, u33, u34, u35, u36, u37, u38, u39, u40, u41, u42, u43, u44, u45, u46, u47, u48, u49, u50], []⟩ w := by
  conv => arg 2; whnf
  have r0 : w.cell? ⟨g1, 0, none⟩ = some (.int .u32 code) := by rw [cell_of_row w g1 _ _ _ _ h1]; rfl
  have r1 : w.cell? ⟨g1, 1, none⟩ = some (.int .u8 flags) := by rw [cell_of_row w g1 _ _ _ _ h1]; rfl
  have r2 : w.cell? ⟨g1, 2, none⟩ = some (.int .u32 vendor) := by rw [cell_of_row w g1 _ _ _ _ h1]; rfl
  have r3 : w.cell? ⟨g1, 3, none⟩ = some (.slice a n c) := by rw [cell_of_row w g1 _ _ _ _ h1]; rfl
  have hd : decide ((fl : Int) * 8 < (m : Int)) = true := by simp; omega
  have HN := hid hn
  have HG := hid hg
  have HB := hid hb
  have H2 := hid h2
  have K0 := hid k0
  have l0 : 0 < w.heap.size := World.block_lt_of_cell? _ _ k0
  have l2 : g2 < w.heap.size := lt_of_block h2
  clear hn hg hb h1 h2 h7 k0 hz
  dsimp only
  go_wp2
  go_quiet (fail)
  go_wp2_with fail
  refine (invalid_any code flags vendor a n c te ev (w.drewN nq) (cell_later (quiet_below _ _ (Below.refl _ _) _) K0.out)).mono ?_
  rintro e w5 ⟨rfl, rfl⟩
  have hsz : w0.heap.size ≤ w.heap.size := HB.out.size
  go_wp2_with (refine wpList_store_whole _ rfl 36 (.tmp 2) (.tmp 47) rfl g2 #[.int .u64 0, .int .u64 0, .pointer none, .int .u8 0] #[.int .u64 0, .int .u64 0, .pointer none, .int .u8 0] 36 rfl rfl ?hst rfl Ybad.size36 (by simp [Value.oneCell']) w0.heap.size w0 ?hbb h20 ?_)
  case hst => exact (Below.heap_alloc _ _ _ (by go_size)).trans ((Below.heap_alloc _ _ _ (by go_size)).trans H2.out)
  case hbb => exact HB.out.trans (Below.mono (B := w.heap.size) (by repeat' (first | exact Below.refl _ _ | assumption | refine Below.setCell ?_ ?_ _ | refine quiet_below _ _ ?_ _ | refine Below.drew ?_ | refine Below.alloc ?_ ?_ _ | go_size)) hsz)
  intro w6 h6 hb6 hk6
  go_wp2
  refine bodyPost_ret (v := .tuple #[.agg #[.int .u64 0, .int .u64 0, .pointer none, .int .u8 0], .iface 48 (.pointer (some ⟨w.heap.size + 1, 0, none⟩))]) ?_ rfl ⟨hb6.out, ?_⟩
  · have q0 : w6.cell? ⟨g2, 0, none⟩ = some (.int .u64 0) := by rw [cell_of_row w6 g2 _ _ _ _ h6.out]; rfl
    have q1 : w6.cell? ⟨g2, 1, none⟩ = some (.int .u64 0) := by rw [cell_of_row w6 g2 _ _ _ _ h6.out]; rfl
    have q2 : w6.cell? ⟨g2, 2, none⟩ = some (.pointer none) := by rw [cell_of_row w6 g2 _ _ _ _ h6.out]; rfl
    have q3 : w6.cell? ⟨g2, 3, none⟩ = some (.int .u8 0) := by rw [cell_of_row w6 g2 _ _ _ _ h6.out]; rfl
    simp [results, Ybad.results5, go_sem, q0, q1, q2, q3]
  · rw [if_neg (by rw [HG.out]; simp), ← HN.out]
    refine ⟨_, rfl, by omega, ?_⟩
    rw [hk6.out _ (by omega)]
    exact heap_at _ _ _ (by simp)
end Go.Proofs.YbulkebiiDoor
