import Derived.Test.YbulkebiiDoorReadE
namespace Go.Proofs.YbulkebiiDoor
open Go.RowKit
set_option linter.unusedVariables false

theorem Ybad.size5 : (Ybad.prog.info? 5).map (·.size) = some 1 := by kernel_rfl

theorem heap_two (w : World) (o1 o2 : Obj) : ((w.alloc o1).alloc o2).heap[w.heap.size]? = some o1 ∧ ((w.alloc o1).alloc o2).heap[w.heap.size + 1]? = some o2 := by
  constructor
  · rw [← heap_alloc_new w o1]; exact (Below.alloc (B := w.heap.size + 1) (Below.refl _ _) (by simp) _).block _ (by omega)
  · exact heap_at _ _ _ (by simp)

theorem pad_splice (zs : List Int) (hzs : ∀ z ∈ zs, byte z) (hl : zs.length ≤ 18) :
    splice ([.int .u8 0, .int .u8 0, .int .u8 0, .int .u8 0, .int .u8 0, .int .u8 0, .int .u8 0, .int .u8 0, .int .u8 0, .int .u8 0, .int .u8 0, .int .u8 0, .int .u8 0, .int .u8 0, .int .u8 0, .int .u8 0] : List Value) 0 ((zs.drop 2).map (Value.int .u8)) = [.int .u8 (padI zs 0), .int .u8 (padI zs 1), .int .u8 (padI zs 2), .int .u8 (padI zs 3), .int .u8 (padI zs 4), .int .u8 (padI zs 5), .int .u8 (padI zs 6), .int .u8 (padI zs 7), .int .u8 (padI zs 8), .int .u8 (padI zs 9), .int .u8 (padI zs 10), .int .u8 (padI zs 11), .int .u8 (padI zs 12), .int .u8 (padI zs 13), .int .u8 (padI zs 14), .int .u8 (padI zs 15)] := by
  have e1 : ([.int .u8 0, .int .u8 0, .int .u8 0, .int .u8 0, .int .u8 0, .int .u8 0, .int .u8 0, .int .u8 0, .int .u8 0, .int .u8 0, .int .u8 0, .int .u8 0, .int .u8 0, .int .u8 0, .int .u8 0, .int .u8 0] : List Value) = List.replicate 16 (.int .u8 0) := rfl
  have e2 : ([.int .u8 (padI zs 0), .int .u8 (padI zs 1), .int .u8 (padI zs 2), .int .u8 (padI zs 3), .int .u8 (padI zs 4), .int .u8 (padI zs 5), .int .u8 (padI zs 6), .int .u8 (padI zs 7), .int .u8 (padI zs 8), .int .u8 (padI zs 9), .int .u8 (padI zs 10), .int .u8 (padI zs 11), .int .u8 (padI zs 12), .int .u8 (padI zs 13), .int .u8 (padI zs 14), .int .u8 (padI zs 15)] : List Value) = (List.range 16).map (fun i => .int .u8 (padI zs i)) := rfl
  rw [e1, e2]
  have hlen : ((zs.drop 2).map (Value.int .u8)).length ≤ 16 := by simp; omega
  apply List.ext_getElem?
  intro i
  have hs : splice (List.replicate 16 (Value.int .u8 0)) 0 ((zs.drop 2).map (Value.int .u8)) = (zs.drop 2).map (Value.int .u8) ++ List.replicate (16 - (zs.length - 2)) (.int .u8 0) := by
    unfold splice
    rw [List.take_zero, List.nil_append, List.drop_replicate]
    simp
  rw [hs]
  by_cases hi : i < 16
  · rw [List.getElem?_map, List.getElem?_range hi]
    have hp : padI zs i = if i < zs.length - 2 then zs.getD (2 + i) 0 else 0 := by
      unfold padI padN
      rw [List.getD, List.getElem?_take_of_lt hi]
      by_cases h : i < zs.length - 2
      · rw [if_pos h, List.getElem?_append_left (by simpa using h), List.getElem?_map, List.getElem?_drop, List.getD, List.getElem?_eq_getElem (by omega)]
        have := hzs _ (List.getElem_mem (l := zs) (n := 2 + i) (by omega))
        unfold byte at this
        simp
        omega
      · rw [if_neg h, List.getElem?_append_right (by simp; omega)]
        simp only [List.getElem?_replicate]
        split <;> simp
    rw [Option.map_some, hp]
    by_cases h : i < zs.length - 2
    · rw [if_pos h, List.getElem?_append_left (by simpa using h), List.getElem?_map, List.getElem?_drop, List.getD, List.getElem?_eq_getElem (by omega)]
      simp
    · rw [if_neg h, List.getElem?_append_right (by simp; omega)]
      simp only [List.getElem?_replicate]
      rw [if_pos (by simp; omega)]
  · rw [List.getElem?_eq_none (by simp; omega), List.getElem?_eq_none (by simp; omega)]

set_option maxHeartbeats 4000000 in
set_option maxRecDepth 100000 in
theorem read_long (code flags vendor : Int) (b off c : Nat) (zs : List Int) (te : TypeId) (ev : Value) (p6 p4 : Addr) (w : World) (hl2 : 2 ≤ zs.length) (hl18 : zs.length ≤ 18) (hc : zs.length ≤ c) (hcm : c ≤ maxLen) (hzs : ∀ z ∈ zs, byte z) (hz : Zs w p6 p4) (k0 : w.cell? ⟨0, 0, none⟩ = some (.iface te ev))
    (hx : ∀ i, i < zs.length → w.cell? ⟨b, off + i, none⟩ = some (.int .u8 (zs.getD i 0))) :
    Calls Ybad.prog 5 #[.agg #[.int .u32 code, .int .u8 flags, .int .u32 vendor, .slice (some ⟨b, off, none⟩) zs.length c]] w (ReadPost w code flags vendor (some ⟨b, off, none⟩) c zs te ev p6) := by
  obtain ⟨n, hn⟩ : ∃ n, n = zs.length := ⟨_, rfl⟩
  obtain ⟨m, hm⟩ : ∃ m, m = bitsN zs := ⟨_, rfl⟩
  have hb1 : byte (zs.getD 1 0) := by
    rw [List.getD, List.getElem?_eq_getElem (by omega)]
    exact hzs _ (List.getElem_mem _)
  unfold byte at hb1
  have em : zs.getD 1 0 = (m : Int) := by rw [hm]; unfold bitsN; omega
  have c1 : w.cell? ⟨b, off + 1, none⟩ = some (.int .u8 (m : Int)) := by rw [hx 1 (by omega), em]
  have hz1 : (m : Int) < 256 := by omega
  have hz0 : (0 : Int) ≤ (m : Int) := by omega
  obtain ⟨CS, hCS⟩ : ∃ CS : List Value, CS = (zs.drop 2).map (Value.int .u8) := ⟨_, rfl⟩
  obtain ⟨XX, hXX⟩ : ∃ XX : List Value, XX = [.int .u8 (padI zs 0), .int .u8 (padI zs 1), .int .u8 (padI zs 2), .int .u8 (padI zs 3), .int .u8 (padI zs 4), .int .u8 (padI zs 5), .int .u8 (padI zs 6), .int .u8 (padI zs 7), .int .u8 (padI zs 8), .int .u8 (padI zs 9), .int .u8 (padI zs 10), .int .u8 (padI zs 11), .int .u8 (padI zs 12), .int .u8 (padI zs 13), .int .u8 (padI zs 14), .int .u8 (padI zs 15)] := ⟨_, rfl⟩
  have HXX : Hid (splice [.int .u8 0, .int .u8 0, .int .u8 0, .int .u8 0, .int .u8 0, .int .u8 0, .int .u8 0, .int .u8 0, .int .u8 0, .int .u8 0, .int .u8 0, .int .u8 0, .int .u8 0, .int .u8 0, .int .u8 0, .int .u8 0] 0 CS = XX) := hid (by rw [hCS, hXX]; exact pad_splice zs hzs hl18)
  have HCL : Hid (CS.length = Nat.min (n - 2) 16) := hid (by rw [hCS, hn]; show _ = min _ _; simp; omega)
  have HFT : Hid (0 + CS.length ≤ ([.int .u8 0, .int .u8 0, .int .u8 0, .int .u8 0, .int .u8 0, .int .u8 0, .int .u8 0, .int .u8 0, .int .u8 0, .int .u8 0, .int .u8 0, .int .u8 0, .int .u8 0, .int .u8 0, .int .u8 0, .int .u8 0] : List Value).length) := hid (by rw [hCS]; simp; omega)
  have HC1 : Hid (∀ v ∈ CS, v.oneCell' = true) := hid (by rw [hCS]; intro v hv; obtain ⟨z, _, rfl⟩ := List.mem_map.1 hv; rfl)
  have HP : Hid (∀ W, Below w.heap.size w W → 0 < CS.length → ∃ ad, some (⟨b, off + 2, none⟩ : Addr) = some ad ∧ ∀ j v, CS[j]? = some v → W.cell? (ad.add j) = some v) := hid (by
    intro W hW h0
    refine ⟨_, rfl, fun j v hv => ?_⟩
    rw [hCS, List.getElem?_map, List.getElem?_drop] at hv
    have hj : 2 + j < zs.length := by
      rcases Nat.lt_or_ge (2 + j) zs.length with h | h
      · exact h
      · rw [List.getElem?_eq_none h] at hv; simp at hv
    have := cell_later hW (hx (2 + j) hj)
    rw [List.getElem?_eq_getElem hj, Option.map_some, Option.some.injEq] at hv
    rw [List.getD, List.getElem?_eq_getElem hj, Option.getD_some, hv] at this
    rw [← this, show off + (2 + j) = off + 2 + j by omega]
    unfold Addr.add
    split
    · next h => rw [h]
    · rfl)
  have l0 : 0 < w.heap.size := World.block_lt_of_cell? _ _ k0
  have hb : b < w.heap.size := World.block_lt_of_cell? _ _ c1
  have q1 : (1 : Int) < (n : Int) := by omega
  have q2 : (2 : Int) ≤ (n : Int) := by omega
  have q3 : ¬ n < 2 := by omega
  have q4 : ¬ 18 < n := by omega
  have HL2 := hid hl2
  have HL18 := hid hl18
  have HZS := hid hzs
  have HZ := hid hz
  have K0 := hid k0
  have HX := hid hXX
  have HFL : Hid (n - 2 = zs.length - 2) := hid (by rw [hn])
  have HMX : Hid (CS.length = n - 2) := hid (by rw [hCS, hn]; simp)
  unfold maxLen at hcm
  have hc' : n ≤ c := by omega
  have HN := hid hn
  have HM := hid hm
  rw [← hn]
  clear hn hm hb1 em hx hzs hz hl2 hl18 hc hXX hCS k0
  by_cases hc2 : c = 2
  · have HP' : Hid (∀ W, Below w.heap.size w W → 0 < CS.length → ∃ ad, some (⟨b, off, none⟩ : Addr) = some ad ∧ ∀ j v, CS[j]? = some v → W.cell? (ad.add j) = some v) := hid (fun W hW h0 => absurd h0 (by rw [HMX.out]; omega))
    rw [hc2]
    go_enter Ybad.func5, Ybad.ntmps5
    go_wp2
    go_quiet (fail)
    go_upto_region 5 with fail
    go_cut [] (fun wc => wc.heap[w.heap.size + 2]? = some (.cells XX.toArray 42 (0, 0)) ∧ Below (w.heap.size + 2) ((w.alloc (.cells #[.int .u32 code, .int .u8 flags, .int .u32 vendor, .slice (some ⟨b, off, none⟩) n 2] 26)).alloc (.cells #[.int .u64 0, .int .u64 0, .pointer none, .int .u8 0] 36)) wc)
    case first =>
      go_wp2_with (refine wpList_copy_splice rfl (.tmp 29) (.tmp 30) 23 23 rfl 5 Ybad.underlying23 Ybad.size5 (some ⟨w.heap.size + 1 + 1, 0, none⟩) (some ⟨b, off, none⟩) 16 16 (n - 2) (0) rfl rfl (w.heap.size + 2) 0 [.int .u8 0, .int .u8 0, .int .u8 0, .int .u8 0, .int .u8 0, .int .u8 0, .int .u8 0, .int .u8 0, .int .u8 0, .int .u8 0, .int .u8 0, .int .u8 0, .int .u8 0, .int .u8 0, .int .u8 0, .int .u8 0] 42 (heap_at _ _ _ (by simp)) CS HCL.out (fun h0 => ⟨rfl, HP'.out _ ?hpp h0⟩) HFT.out HC1.out (w.heap.size + 2) ((w.alloc (.cells #[.int .u32 code, .int .u8 flags, .int .u32 vendor, .slice (some ⟨b, off, none⟩) n 2] 26)).alloc (.cells #[.int .u64 0, .int .u64 0, .pointer none, .int .u8 0] 36)) ?hbb (Nat.le_refl _) ?_)
      case hpp => exact (by repeat' (first | exact Below.refl _ _ | assumption | refine Below.setCell ?_ ?_ _ | refine quiet_below _ _ ?_ _ | refine Below.drew ?_ | refine Below.alloc ?_ ?_ _ | go_size))
      case hbb => exact (by repeat' (first | exact Below.refl _ _ | assumption | refine Below.setCell ?_ ?_ _ | refine quiet_below _ _ ?_ _ | refine Below.drew ?_ | refine Below.alloc ?_ ?_ _ | go_size))
      intro w3 hg3 hb3
      go_wp2
      go_meet
      case rel => exact ⟨by rw [← HXX.out]; exact hg3.out, hb3⟩
    case rest =>
      obtain ⟨h6, hbc⟩ := hcut
      have hbA := hid hbc
      have ab : Below w.heap.size w wc := (show Below w.heap.size w ((w.alloc (.cells #[.int .u32 code, .int .u8 flags, .int .u32 vendor, .slice (some ⟨b, off, none⟩) n 2] 26)).alloc (.cells #[.int .u64 0, .int .u64 0, .pointer none, .int .u8 0] 36)) from (by repeat' (first | exact Below.refl _ _ | assumption | refine Below.setCell ?_ ?_ _ | refine quiet_below _ _ ?_ _ | refine Below.drew ?_ | refine Below.alloc ?_ ?_ _ | go_size))).trans (hbc.mono (by omega))
      clear hbc
      have a1 : wc.heap[w.heap.size]? = some (.cells #[.int .u32 code, .int .u8 flags, .int .u32 vendor, .slice (some ⟨b, off, none⟩) n 2] 26 (0, 0)) := (hbA.out.block _ (by omega)).trans (heap_two _ _ _).1
      have a2 : wc.heap[w.heap.size + 1]? = some (.cells #[.int .u64 0, .int .u64 0, .pointer none, .int .u8 0] 36 (0, 0)) := (hbA.out.block _ (by omega)).trans (heap_two _ _ _).2
      go_step
      exact readA code flags vendor (some ⟨b, off, none⟩) n 2 zs te ev p6 p4 w wc w.heap.size (w.heap.size + 1) (w.heap.size + 2) m (n - 2) 0 (some ⟨b, off, none⟩) HN.out ab (HZ.out.later ab) (cell_later ab K0.out) a1 a2 (by rw [h6, HX.out]) (by omega) (by omega) HFL.out HM.out HZS.out HL2.out HL18.out

  · have hc3 : c - 2 ≠ 0 := by omega
    go_enter Ybad.func5, Ybad.ntmps5
    go_wp2
    go_quiet (fail)
    go_upto_region 5 with fail
    go_cut [] (fun wc => wc.heap[w.heap.size + 2]? = some (.cells XX.toArray 42 (0, 0)) ∧ Below (w.heap.size + 2) ((w.alloc (.cells #[.int .u32 code, .int .u8 flags, .int .u32 vendor, .slice (some ⟨b, off, none⟩) n c] 26)).alloc (.cells #[.int .u64 0, .int .u64 0, .pointer none, .int .u8 0] 36)) wc)
    case first =>
      go_wp2_with (refine wpList_copy_splice rfl (.tmp 29) (.tmp 30) 23 23 rfl 5 Ybad.underlying23 Ybad.size5 (some ⟨w.heap.size + 1 + 1, 0, none⟩) (some ⟨b, off + 2, none⟩) 16 16 (n - 2) (c - 2) rfl rfl (w.heap.size + 2) 0 [.int .u8 0, .int .u8 0, .int .u8 0, .int .u8 0, .int .u8 0, .int .u8 0, .int .u8 0, .int .u8 0, .int .u8 0, .int .u8 0, .int .u8 0, .int .u8 0, .int .u8 0, .int .u8 0, .int .u8 0, .int .u8 0] 42 (heap_at _ _ _ (by simp)) CS HCL.out (fun h0 => ⟨rfl, HP.out _ ?hpp h0⟩) HFT.out HC1.out (w.heap.size + 2) ((w.alloc (.cells #[.int .u32 code, .int .u8 flags, .int .u32 vendor, .slice (some ⟨b, off, none⟩) n c] 26)).alloc (.cells #[.int .u64 0, .int .u64 0, .pointer none, .int .u8 0] 36)) ?hbb (Nat.le_refl _) ?_)
      case hpp => exact (by repeat' (first | exact Below.refl _ _ | assumption | refine Below.setCell ?_ ?_ _ | refine quiet_below _ _ ?_ _ | refine Below.drew ?_ | refine Below.alloc ?_ ?_ _ | go_size))
      case hbb => exact (by repeat' (first | exact Below.refl _ _ | assumption | refine Below.setCell ?_ ?_ _ | refine quiet_below _ _ ?_ _ | refine Below.drew ?_ | refine Below.alloc ?_ ?_ _ | go_size))
      intro w3 hg3 hb3
      go_wp2
      go_meet
      case rel => exact ⟨by rw [← HXX.out]; exact hg3.out, hb3⟩
    case rest =>
      obtain ⟨h6, hbc⟩ := hcut
      have hbA := hid hbc
      have ab : Below w.heap.size w wc := (show Below w.heap.size w ((w.alloc (.cells #[.int .u32 code, .int .u8 flags, .int .u32 vendor, .slice (some ⟨b, off, none⟩) n c] 26)).alloc (.cells #[.int .u64 0, .int .u64 0, .pointer none, .int .u8 0] 36)) from (by repeat' (first | exact Below.refl _ _ | assumption | refine Below.setCell ?_ ?_ _ | refine quiet_below _ _ ?_ _ | refine Below.drew ?_ | refine Below.alloc ?_ ?_ _ | go_size))).trans (hbc.mono (by omega))
      clear hbc
      have a1 : wc.heap[w.heap.size]? = some (.cells #[.int .u32 code, .int .u8 flags, .int .u32 vendor, .slice (some ⟨b, off, none⟩) n c] 26 (0, 0)) := (hbA.out.block _ (by omega)).trans (heap_two _ _ _).1
      have a2 : wc.heap[w.heap.size + 1]? = some (.cells #[.int .u64 0, .int .u64 0, .pointer none, .int .u8 0] 36 (0, 0)) := (hbA.out.block _ (by omega)).trans (heap_two _ _ _).2
      go_step
      exact readA code flags vendor (some ⟨b, off, none⟩) n c zs te ev p6 p4 w wc w.heap.size (w.heap.size + 1) (w.heap.size + 2) m (n - 2) (c - 2) (some ⟨b, off + 2, none⟩) HN.out ab (HZ.out.later ab) (cell_later ab K0.out) a1 a2 (by rw [h6, HX.out]) (by omega) (by omega) HFL.out HM.out HZS.out HL2.out HL18.out


theorem read_any (code flags vendor : Int) (a : Option Addr) (c : Nat) (zs : List Int) (te : TypeId) (ev : Value) (p6 p4 : Addr) (w : World) (hc : zs.length ≤ c) (hcm : c ≤ maxLen) (hzs : ∀ z ∈ zs, byte z) (hz : Zs w p6 p4) (k0 : w.cell? ⟨0, 0, none⟩ = some (.iface te ev)) (hx : Byt w a zs) :
    Calls Ybad.prog 5 #[.agg #[.int .u32 code, .int .u8 flags, .int .u32 vendor, .slice a zs.length c]] w (ReadPost w code flags vendor a c zs te ev p6) := by
  by_cases h : zs.length < 2 ∨ 18 < zs.length
  · exact read_short code flags vendor a c zs te ev p6 w (by omega) k0 h
  · rcases hx with rfl | ⟨b, off, rfl, hx⟩
    · exact absurd (Or.inl (by simp)) h
    · exact read_long code flags vendor b off c zs te ev p6 p4 w (by omega) (by omega) hc hcm hzs hz k0 hx
end Go.Proofs.YbulkebiiDoor
