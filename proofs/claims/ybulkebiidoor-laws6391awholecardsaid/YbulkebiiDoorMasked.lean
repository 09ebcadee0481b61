import Derived.Test.YbulkebiiDoorPrefix
import Derived.Deep.DeepCutAuto
namespace Go.Proofs.YbulkebiiDoor
open Go.RowKit

theorem heap_at (w : World) (o : Obj) (k : Nat) (h : k = w.heap.size) : (w.alloc o).heap[k]? = some o := by
  subst h
  exact heap_alloc_new _ _

theorem four_block {w : World} {g : Nat} {t : TypeId} {a b c d x0 x1 x2 x3 : Value} (h : w.heap[g]? = some (.cells #[a, b, c, d] t (0, 0))) :
    ((((w.setCell ⟨g, 0, none⟩ x0).setCell ⟨g, 1, none⟩ x1).setCell ⟨g, 2, none⟩ x2).setCell ⟨g, 3, none⟩ x3).heap[g]? = some (.cells #[x0, x1, x2, x3] t (0, 0)) := by
  rw [block_setCell (block_setCell (block_setCell (block_setCell h)))]
  rfl

theorem four_other {w : World} {g k : Nat} {o : Obj} {x0 x1 x2 x3 : Value} (h : w.heap[k]? = some o) (hne : k ≠ g) :
    ((((w.setCell ⟨g, 0, none⟩ x0).setCell ⟨g, 1, none⟩ x1).setCell ⟨g, 2, none⟩ x2).setCell ⟨g, 3, none⟩ x3).heap[k]? = some o := by
  rw [Below.heap_setCell _ _ _ _ hne, Below.heap_setCell _ _ _ _ hne, Below.heap_setCell _ _ _ _ hne, Below.heap_setCell _ _ _ _ hne]
  exact h

set_option maxHeartbeats 4000000 in
set_option maxRecDepth 100000 in
theorem masked_any (hi lo : Int) (n : Nat) (p6 p4 : Addr) (w : World) (hz : Zs w p6 p4) (hn : n ≤ 128) :
    Calls Ybad.prog 18 #[.agg #[.int .u64 hi, .int .u64 lo, .pointer (some p6), .int .u8 ((n : Int) + 1)]] w fun e w' =>
      e = .returned (.agg #[.int .u64 (bits .and .u64 hi (maskHi n)), .int .u64 (bits .and .u64 lo (maskLo n)), .pointer (some p6), .int .u8 ((n : Int) + 1)]) ∧ Below w.heap.size w w' := by
  have HZ := hid hz
  clear hz
  have hp : plusOne (n : Int) = (n : Int) + 1 := by simp [plusOne]; omega
  have HPF := hid (fun W hW => prefix_any hi lo n p6 p4 W hW hn)
  rw [hp] at HPF
  have e1 : (n : Int) + 1 - 1 = (n : Int) := by omega
  have HBI := hid (fun W => bits_any hi lo ((n : Int) + 1) (some p6) W (by unfold byte; omega))
  rw [e1] at HBI
  clear hp e1
  go_enter Ybad.func18, Ybad.ntmps18
  go_upto_region 1 with fail
  go_cut [3, 4] (fun v3 v4 wc => ∃ g3, v3 = .pointer (some ⟨g3, 0, none⟩) ∧ wc.heap[g3]? = some (.cells #[.int .u64 (bits .and .u64 hi (maskHi n)), .int .u64 (bits .and .u64 lo (maskLo n)), .pointer (some p6), .int .u8 ((n : Int) + 1)] 36 (0, 0)) ∧ wc.heap[w.heap.size + 1]? = some (.cells #[.int .u64 0, .int .u64 0, .pointer none, .int .u8 0] 36 (0, 0)) ∧ Below w.heap.size w wc)
  case first =>
    go_region_held3 (fun w' => w'.cell? ⟨w.heap.size, 0, none⟩ = some (.int .u64 hi) ∧ w'.cell? ⟨w.heap.size, 1, none⟩ = some (.int .u64 lo) ∧ w'.cell? ⟨w.heap.size, 2, none⟩ = some (.pointer (some p6)) ∧ w'.cell? ⟨w.heap.size, 3, none⟩ = some (.int .u8 ((n : Int) + 1))) (refine ⟨?_, ?_, ?_, ?_⟩ <;> (first | (go_keep; done) | (simp [*, go_sem]; done)))
      (first
        | (go_at_call 8; refine (HBI.out _).mono ?_; rintro e w1 ⟨rfl, rfl⟩)
        | (go_at_call 26; refine (HPF.out _ (HZ.out.later (by repeat' (first | exact Below.refl _ _ | assumption | refine Below.setCell ?_ ?_ _ | refine quiet_below _ _ ?_ _ | refine Below.drew ?_ | refine Below.alloc ?_ ?_ _ | go_size)))).mono ?_; rintro e w2 ⟨rfl, hb2⟩; have hs2 : w.heap.size + 2 < w2.heap.size := (by have := hb2.size; simp at this; omega); have hs3 : w.heap.size < w2.heap.size := (by omega); have hs4 : w2.heap.size ≠ w.heap.size := (by omega); have hs5 : w.heap.size + 1 < w2.heap.size := (by omega); obtain ⟨hc, hf⟩ := bcell hb2; have hbw : Below w.heap.size w w2 := (Below.trans (by repeat' (first | exact Below.refl _ _ | assumption | refine Below.setCell ?_ ?_ _ | refine quiet_below _ _ ?_ _ | refine Below.drew ?_ | refine Below.alloc ?_ ?_ _ | go_size)) (hb2.mono (by go_size)))))
    all_goals (clear HBI HPF HZ; go_wp2; go_meet)
    · exact ⟨_, rfl, heap_alloc_new _ _, (Below.heap_alloc _ _ _ hs5).trans ((hb2.block _ (by go_size)).trans (by (try simp only [heap_drew]); repeat (first | (refine heap_at _ _ _ ?_; simp; done) | refine (Below.heap_alloc _ _ _ (by go_size)).trans ?_))), (by repeat' (first | exact Below.refl _ _ | assumption | refine Below.setCell ?_ ?_ _ | refine quiet_below _ _ ?_ _ | refine Below.drew ?_ | refine Below.alloc ?_ ?_ _ | go_size))⟩
    · have HG : w2.heap[w.heap.size + 1 + 1 + 1]? = some (.cells #[.int .u64 0, .int .u64 0, .pointer none, .int .u8 0] 36 (0, 0)) := (hb2.block _ (by go_size)).trans (by (try simp only [heap_drew]); repeat (first | (refine heap_at _ _ _ ?_; simp; done) | refine (Below.heap_alloc _ _ _ (by go_size)).trans ?_))
      have HK : w2.heap[w.heap.size + 1]? = some (.cells #[.int .u64 0, .int .u64 0, .pointer none, .int .u8 0] 36 (0, 0)) := (hb2.block _ (by go_size)).trans (by (try simp only [heap_drew]); repeat (first | (refine heap_at _ _ _ ?_; simp; done) | refine (Below.heap_alloc _ _ _ (by go_size)).trans ?_))
      exact ⟨_, rfl, four_block HG, four_other HK (by simp), (by repeat' (first | exact Below.refl _ _ | assumption | refine Below.setCell ?_ ?_ _ | refine quiet_below _ _ ?_ _ | refine Below.drew ?_ | refine Below.alloc ?_ ?_ _ | go_size))⟩
    · have HG : w2.heap[w.heap.size + 1 + 1]? = some (.cells #[.int .u64 0, .int .u64 0, .pointer none, .int .u8 0] 36 (0, 0)) := (hb2.block _ (by go_size)).trans (by (try simp only [heap_drew]); repeat (first | (refine heap_at _ _ _ ?_; simp; done) | refine (Below.heap_alloc _ _ _ (by go_size)).trans ?_))
      have HK : w2.heap[w.heap.size + 1]? = some (.cells #[.int .u64 0, .int .u64 0, .pointer none, .int .u8 0] 36 (0, 0)) := (hb2.block _ (by go_size)).trans (by (try simp only [heap_drew]); repeat (first | (refine heap_at _ _ _ ?_; simp; done) | refine (Below.heap_alloc _ _ _ (by go_size)).trans ?_))
      exact ⟨_, rfl, four_block HG, four_other HK (by simp), (by repeat' (first | exact Below.refl _ _ | assumption | refine Below.setCell ?_ ?_ _ | refine quiet_below _ _ ?_ _ | refine Below.drew ?_ | refine Below.alloc ?_ ?_ _ | go_size))⟩
  case rest =>
    obtain ⟨g3, rfl, hg3, hr, hbel⟩ := hcut
    have c0 : wc.cell? ⟨g3, 0, none⟩ = some (.int .u64 (bits .and .u64 hi (maskHi n))) := by rw [cell_of_row wc g3 _ _ _ _ hg3]; rfl
    have c1 : wc.cell? ⟨g3, 1, none⟩ = some (.int .u64 (bits .and .u64 lo (maskLo n))) := by rw [cell_of_row wc g3 _ _ _ _ hg3]; rfl
    have c2 : wc.cell? ⟨g3, 2, none⟩ = some (.pointer (some p6)) := by rw [cell_of_row wc g3 _ _ _ _ hg3]; rfl
    have c3 : wc.cell? ⟨g3, 3, none⟩ = some (.int .u8 ((n : Int) + 1)) := by rw [cell_of_row wc g3 _ _ _ _ hg3]; rfl
    have HR := hid hr
    have HBL := hid hbel
    clear hg3 hr hbel HBI HPF HZ
    go_wp2_with (refine wpList_store_whole _ rfl 36 (.tmp 2) (.tmp 13) rfl (w.heap.size + 1) #[.int .u64 0, .int .u64 0, .pointer none, .int .u8 0] #[.int .u64 (bits .and .u64 hi (maskHi n)), .int .u64 (bits .and .u64 lo (maskLo n)), .pointer (some p6), .int .u8 ((n : Int) + 1)] 36 rfl rfl HR.out rfl Ybad.size36 (by simp [Value.oneCell']) w.heap.size w HBL.out (by omega) ?_; intro w3 h3 hb3 _)
    exact bodyPost_ret (results_cell_row Ybad.results18 _ _ (w.heap.size + 1) 36 #[.int .u64 (bits .and .u64 hi (maskHi n)), .int .u64 (bits .and .u64 lo (maskLo n)), .pointer (some p6), .int .u8 ((n : Int) + 1)] (0, 0) _ rfl h3.out Ybad.underlying36 rfl Ybad.size36) rfl ⟨rfl, hb3.out⟩
end Go.Proofs.YbulkebiiDoor
