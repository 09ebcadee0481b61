import Derived.Test.YbulkebiiDoorLawN
import Derived.Deep.AppendLies
import Derived.Maps.AppendAt
namespace Go.Proofs.YbulkebiiDoor
open Go.RowKit
set_option linter.unusedVariables false

theorem owns_block {w : World} {base g n cap : Nat} {e : TypeId} {size : Nat} {xs : List Value} (h : w.ownsRow base e size (.slice (some ⟨g, 0, none⟩) n cap) n xs) :
    ∃ cur : List Value, w.heap[g]? = some (.cells cur.toArray e (0, 0)) ∧ cur.length = cap * size := by
  rcases h.2 with ⟨h0, _⟩ | ⟨g', cap', cur, hv, _, hh, _, _, hs, _⟩
  · simp at h0
  · simp at hv
    obtain ⟨rfl, rfl⟩ := hv
    exact ⟨cur.toList, by simpa using hh, by simpa using hs⟩

theorem splice_whole {cur cs : List Value} (h : cs.length = cur.length) : splice cur 0 cs = cs := by
  simp [splice, h]

theorem Ybad.info5 : (Ybad.prog.info? 5).map (fun i => (i.zero, i.size, i.bytes)) = some (some (.int .u8 0), 1, 1) := by kernel_rfl

set_option maxHeartbeats 4000000 in
set_option maxRecDepth 100000 in
theorem law_long (code flags vendor : Int) (a : Option Addr) (n c : Nat) (w : World) (hl : 1048576 < n) :
    Calls Ybad.prog 3 #[.int .u32 code, .int .u8 flags, .int .u32 vendor, .slice a n c] w fun e w' => e = .returned (.bool true) ∧ Below w.heap.size w w' := by
  have hl' : (1048576 : Int) < (n : Int) := by omega
  go_enter Ybad.func3, Ybad.ntmps3
  go_wp2
  go_ret
  exact ⟨rfl, Below.refl _ _⟩

set_option maxHeartbeats 4000000 in
set_option maxRecDepth 100000 in
theorem law_nil (code flags vendor : Int) (pe p6 p4 : Addr) (w : World) (k0 : w.cell? ⟨0, 0, none⟩ = some (.iface 94 (.pointer (some pe)))) (hz : Zs w p6 p4) :
    Calls Ybad.prog 3 #[.int .u32 code, .int .u8 flags, .int .u32 vendor, .slice none 0 0] w fun e w' => e = .returned (.bool true) ∧ Below w.heap.size w w' := by
  have HZ := hid hz
  have K0 := hid k0
  clear hz k0
  go_enter Ybad.func3, Ybad.ntmps3
  go_upto_if 25 with fail
  go_cut [9] (fun v wc => v = .slice none 0 0 ∧ w = wc)
  case first =>
    go_wp2
    go_meet
    case rel => exact ⟨rfl, rfl⟩
  case rest =>
    obtain ⟨rfl, rfl⟩ := hcut
    go_step
    exact lawN code flags vendor none none pe p6 p4 [] 0 0 0 w w rfl (Below.refl _ _) (Or.inl rfl) (Or.inl rfl) (Nat.le_refl _) (Nat.zero_le _) (Nat.le_refl _) (Nat.zero_le _) (by simp) K0.out HZ.out

set_option maxHeartbeats 4000000 in
set_option maxRecDepth 100000 in
theorem law_some (code flags vendor : Int) (b off : Nat) (pe p6 p4 : Addr) (zs : List Int) (c : Nat) (w : World) (hl : zs.length ≤ 1048576) (hxa : Byt w (some ⟨b, off, none⟩) zs) (hca : zs.length ≤ c) (hcam : c ≤ maxLen) (hzs : ∀ z ∈ zs, byte z) (k0 : w.cell? ⟨0, 0, none⟩ = some (.iface 94 (.pointer (some pe)))) (hz : Zs w p6 p4) :
    Calls Ybad.prog 3 #[.int .u32 code, .int .u8 flags, .int .u32 vendor, .slice (some ⟨b, off, none⟩) zs.length c] w fun e w' => e = .returned (.bool true) ∧ Below w.heap.size w w' := by
  obtain ⟨i0, hi, hz0, hz1, hz2⟩ := info_parts Ybad.info5
  obtain ⟨n, hn⟩ : ∃ n, n = zs.length := ⟨_, rfl⟩
  obtain ⟨X, hX⟩ : ∃ X, X = zs.map (Value.int .u8) := ⟨_, rfl⟩
  rw [← hn]
  have hX1 : Hid (∀ v ∈ X, v.oneCell' = true) := hid (by rw [hX]; intro v hv; obtain ⟨z, _, rfl⟩ := List.mem_map.1 hv; rfl)
  have HXn : Hid (X.length = n) := hid (by rw [hX, hn]; simp)
  have HS : Hid (∀ (w1 : World), Below w.heap.size w w1 → 0 < X.length → ∃ ad', some (⟨b, off, none⟩ : Addr) = some ad' ∧ ∀ j v, X[j]? = some v → w1.cell? (ad'.add j) = some v) := hid (by
    intro w1 hb h0
    refine ⟨_, rfl, fun j v hj => ?_⟩
    rcases hxa with rfl | ⟨b', off', hd, hc⟩
    · simp [hX] at h0
    · cases hd
      have hj' : j < zs.length := by have := (List.getElem?_eq_some_iff.1 hj).1; simpa [hX] using this
      rw [Addr.add_lit]
      refine cell_later hb ?_
      rw [hc j hj']
      rw [hX] at hj
      simp [hj'] at hj
      simp [hj', hj])
  have HBX : Hid (∀ W, W.heap[w.heap.size]? = some (.cells X.toArray 5 (0, 0)) → Byt W (some ⟨w.heap.size, 0, none⟩) zs) := hid (by
    intro W hW
    refine Or.inr ⟨_, _, rfl, fun i hi => ?_⟩
    rw [Nat.zero_add, cell_of_row W _ i _ 5 (0, 0) hW, hX]
    simp [hi])
  have HZ := hid hz
  have K0 := hid k0
  have HXA := hid hxa
  have HZS := hid hzs
  have HN := hid hn
  have hl1 : n ≤ 1048576 := by omega
  have hl' : ¬ (1048576 : Int) < (n : Int) := by omega
  have HCA : Hid (n ≤ c) := hid (by omega)
  have HCM := hid hcam
  clear hn hX hz k0 hxa hzs hl hca hcam
  go_enter Ybad.func3, Ybad.ntmps3
  go_upto_if 25 with fail
  go_cut [9] (fun v wc => v = .slice (some ⟨w.heap.size, 0, none⟩) n n ∧ wc.heap[w.heap.size]? = some (.cells X.toArray 5 (0, 0)) ∧ Below w.heap.size w wc)
  case first =>
    go_wp2_with (at_make; refine wpList_make_full _ rfl _ _ 23 rfl w.heap.size 5 i0 (.int .u8 0) 1 Ybad.underlying23 hi hz0 hz1 _ _ _ _ n rfl rfl rfl rfl ?b2 ?b3 ?b4 ?_)
    case b2 => omega
    case b3 => unfold maxLen; omega
    intro w1 hown hgrow
    have hb : Below w.heap.size w w1 := (Below.refl _ _).grown hgrow (Nat.le_refl _) (fun k hk => by cases hk)
    obtain ⟨cur, hcur, hlen⟩ := owns_block hown
    rw [Nat.mul_one] at hlen
    have HC : Hid (w1.heap[w.heap.size]? = some (.cells cur.toArray 5 (0, 0))) := hcur
    have HLn : Hid (cur.length = n) := hlen
    clear hown hcur hlen hgrow
    have HB : Hid (Below w.heap.size w w1) := hb
    clear hb
    go_wp2_with (refine wpList_copy_splice rfl (.tmp 29) (.tmp 30) 23 23 rfl 5 Ybad.underlying23 Ybad.size5 (some ⟨w.heap.size, 0, none⟩) (some ⟨b, off, none⟩) n n n c rfl rfl w.heap.size 0 cur 5 HC.out X (by rw [HXn.out]; simp) (fun h0 => ⟨rfl, HS.out w1 HB.out h0⟩) (by rw [HXn.out, HLn.out]; omega) hX1.out w.heap.size w HB.out (Nat.le_refl _) ?_)
    intro w2 hg2 hb2
    have hg3 := hg2.out
    rw [splice_whole (by rw [HXn.out, HLn.out])] at hg3
    have HG : Hid (w2.heap[w.heap.size]? = some (.cells X.toArray 5 (0, 0))) := hg3
    clear hg2 hg3
    go_wp2
    go_meet
    case rel => exact ⟨rfl, HG.out, hb2⟩
  case rest =>
    obtain ⟨rfl, hg, hbc⟩ := hcut
    go_step
    exact lawN code flags vendor (some ⟨b, off, none⟩) (some ⟨w.heap.size, 0, none⟩) pe p6 p4 zs n c n w wc HN.out hbc HXA.out (HBX.out wc hg) HCA.out HCM.out (Nat.le_refl _) (by unfold maxLen; omega) HZS.out K0.out HZ.out

theorem law_any (code flags vendor : Int) (a : Option Addr) (pe p6 p4 : Addr) (zs : List Int) (c : Nat) (w : World) (hxa : Byt w a zs) (ha : a = none → zs = [] ∧ c = 0) (hsm : ∀ ad, a = some ad → ad.spot = none) (hca : zs.length ≤ c) (hcam : c ≤ maxLen) (hzs : ∀ z ∈ zs, byte z) (k0 : w.cell? ⟨0, 0, none⟩ = some (.iface 94 (.pointer (some pe)))) (hz : Zs w p6 p4) :
    Calls Ybad.prog 3 #[.int .u32 code, .int .u8 flags, .int .u32 vendor, .slice a zs.length c] w fun e w' => e = .returned (.bool true) ∧ Below w.heap.size w w' := by
  by_cases hl : 1048576 < zs.length
  · exact law_long code flags vendor a zs.length c w hl
  · cases a with
    | none =>
      obtain ⟨rfl, rfl⟩ := ha rfl
      exact law_nil code flags vendor pe p6 p4 w k0 hz
    | some ad =>
      obtain ⟨b, off, sp⟩ := ad
      obtain rfl : sp = none := hsm _ rfl
      exact law_some code flags vendor b off pe p6 p4 zs c w (by omega) hxa hca hcam hzs k0 hz
end Go.Proofs.YbulkebiiDoor
