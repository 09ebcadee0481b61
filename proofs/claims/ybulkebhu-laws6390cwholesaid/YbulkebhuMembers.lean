import Derived.Test.YbulkebhuCalls
import Derived.Handy
namespace Go.Proofs.Ybulkebhu
open Go.RowKit

theorem below_drewN {w w' : World} {B : Nat} (h : Below B w w') (n : Nat) : Below B w (w'.drewN n) := ⟨h.os, h.tape, h.output, h.size, h.block⟩

theorem quiet_of_same1 {P : Program} {f : FuncId} {args : Array Value} {w : World} {k n : Nat} {v : Value}
    (h : Calls P f args (w.drewN (k + n)) fun e w' => e = .returned v ∧ w' = w.drewN (k + n)) : Calls P f args (w.drewN (k + n)) fun e w'' => e = .returned v ∧ ∃ m, w'' = w.drewN (k + m) :=
  h.mono fun _ _ ⟨he, hm⟩ => ⟨he, n, hm⟩

theorem lies_later {w W : World} {a : Option Addr} {ss : List ByteArray} (h : Lies w a ss) (hb : Below w.heap.size w W) : Lies W a ss := by
  rcases h with rfl | ⟨b, off, rfl, hc⟩
  · exact Or.inl rfl
  · exact Or.inr ⟨b, off, rfl, fun i hi => cell_later hb (hc i hi)⟩

theorem live_later {w W : World} {L : Nat} {dv : Value} {le : Bool} {cl : Value} {n : Int} (h : Live w L dv le cl n) (hb : Below w.heap.size w W) : Live W L dv le cl n := by
  unfold Live at *
  rw [hb.block L (lt_of_block h)]
  exact h

set_option maxHeartbeats 1000000 in
theorem mem_wide (G gm m cp : Nat) (I : Int) (a : Option Addr) (c n : Nat) (w : World)
    (hn : ((n : Int) != 2) = true) (hm : (m : Int) + 1 ≤ 100000)
    (kg : w.cell? ⟨G, 23, none⟩ = some (.slice (some ⟨gm, 0, none⟩) (m + 1) cp))
    (k0 : w.cell? ⟨gm, m * 2, none⟩ = some (.int .u64 I))
    (k1 : w.cell? ⟨gm, m * 2 + 1, none⟩ = some (.slice a n c)) :
    Calls Yba.prog 5 #[.pointer (some ⟨G, 0, none⟩)] w fun e w' => e = .returned (.slice a n c) ∧ Below w.heap.size w w' := by
  have n1 := World.new_ne w _ kg
  have n2 := World.new_ne w _ k0
  have n3 := World.new_ne w _ k1
  have b1 : (0 : Int) ≤ (m : Int) := by omega
  have b2 : (m : Int) < (m : Int) + 1 := by omega
  have b3 : IntKind.i64.wrap (m : Int) = (m : Int) := by rw [IntKind.wrap_i64]; omega
  go_enter Yba.func5, Yba.ntmps5
  go_wp2
  go_region_held3 (fun w' => w'.cell? ⟨G, 23, none⟩ = some (.slice (some ⟨gm, 0, none⟩) (m + 1) cp) ∧ w'.cell? ⟨gm, m * 2, none⟩ = some (.int .u64 I) ∧ w'.cell? ⟨gm, m * 2 + 1, none⟩ = some (.slice a n c)) (go_keep) (fail)
  go_wp2
  go_quiet (fail)
  go_wp2
  go_ret
  exact ⟨rfl, below_drewN ((Below.refl _ _).alloc (Nat.le_refl _) _) _⟩

set_option maxHeartbeats 1000000 in
theorem mem_late (G gm m cp : Nat) (I commit : Int) (a : Option Addr) (c : Nat) (w : World)
    (hI : commit < I) (hm : (m : Int) + 1 ≤ 100000)
    (kg : w.cell? ⟨G, 23, none⟩ = some (.slice (some ⟨gm, 0, none⟩) (m + 1) cp))
    (kc : w.cell? ⟨G, 21, none⟩ = some (.int .u64 commit))
    (k0 : w.cell? ⟨gm, m * 2, none⟩ = some (.int .u64 I))
    (k1 : w.cell? ⟨gm, m * 2 + 1, none⟩ = some (.slice a 2 c)) :
    Calls Yba.prog 5 #[.pointer (some ⟨G, 0, none⟩)] w fun e w' => e = .returned (.slice a 2 c) ∧ Below w.heap.size w w' := by
  have n1 := World.new_ne w _ kg
  have n2 := World.new_ne w _ k0
  have n3 := World.new_ne w _ k1
  have l1 : G < w.heap.size := World.block_lt_of_cell? w _ kc
  have b1 : (0 : Int) ≤ (m : Int) := by omega
  have b2 : (m : Int) < (m : Int) + 1 := by omega
  have b3 : IntKind.i64.wrap (m : Int) = (m : Int) := by rw [IntKind.wrap_i64]; omega
  go_enter Yba.func5, Yba.ntmps5
  go_wp2
  go_region_held3 (fun w' => w'.cell? ⟨G, 23, none⟩ = some (.slice (some ⟨gm, 0, none⟩) (m + 1) cp) ∧ w'.cell? ⟨gm, m * 2, none⟩ = some (.int .u64 I) ∧ w'.cell? ⟨gm, m * 2 + 1, none⟩ = some (.slice a 2 c)) (go_keep) (fail)
  go_wp2
  go_quiet (fail)
  go_wp2
  go_ret
  exact ⟨rfl, below_drewN ((Below.refl _ _).alloc (Nat.le_refl _) _) _⟩

set_option maxHeartbeats 1000000 in
theorem mem_not (G gm m cp : Nat) (I commit : Int) (b off c : Nat) (s0 s1 self : ByteArray) (w : World)
    (hI : I ≤ commit) (hm : (m : Int) + 1 ≤ 100000) (hh : has [s0, s1] self = false)
    (kg : w.cell? ⟨G, 23, none⟩ = some (.slice (some ⟨gm, 0, none⟩) (m + 1) cp))
    (kc : w.cell? ⟨G, 21, none⟩ = some (.int .u64 commit))
    (ks : w.cell? ⟨G, 1, none⟩ = some (.string self))
    (k0 : w.cell? ⟨gm, m * 2, none⟩ = some (.int .u64 I))
    (k1 : w.cell? ⟨gm, m * 2 + 1, none⟩ = some (.slice (some ⟨b, off, none⟩) 2 c))
    (hl : Lies w (some ⟨b, off, none⟩) [s0, s1]) :
    Calls Yba.prog 5 #[.pointer (some ⟨G, 0, none⟩)] w fun e w' => e = .returned (.slice (some ⟨b, off, none⟩) 2 c) ∧ Below w.heap.size w w' := by
  have n1 := World.new_ne w _ kg
  have n2 := World.new_ne w _ k0
  have n3 := World.new_ne w _ k1
  have l1 : G < w.heap.size := World.block_lt_of_cell? w _ kc
  have b1 : (0 : Int) ≤ (m : Int) := by omega
  have b2 : (m : Int) < (m : Int) + 1 := by omega
  have b3 : IntKind.i64.wrap (m : Int) = (m : Int) := by rw [IntKind.wrap_i64]; omega
  have hd : decide (commit < I) = false := by simp; omega
  have hct : ∀ W, Below w.heap.size w W → Calls Yba.prog 8 #[.slice (some ⟨b, off, none⟩) 2 c, .string self] W fun e w' => e = .returned (.bool false) ∧ w' = W := by
    intro W hW
    have := contains_any (some ⟨b, off, none⟩) c [s0, s1] self W (by simp [maxLen]) (lies_later hl hW)
    rw [hh] at this
    exact this
  have HCT := (show Hid _ from hct)
  clear hct hh hl
  go_enter Yba.func5, Yba.ntmps5
  go_wp2
  go_region_held3 (fun w' => w'.cell? ⟨G, 23, none⟩ = some (.slice (some ⟨gm, 0, none⟩) (m + 1) cp) ∧ w'.cell? ⟨gm, m * 2, none⟩ = some (.int .u64 I) ∧ w'.cell? ⟨gm, m * 2 + 1, none⟩ = some (.slice (some ⟨b, off, none⟩) 2 c)) (go_keep) (fail)
  go_wp2
  go_quiet ((go_at_call 8; exact quiet_of_same1 (HCT.out _ (below_drewN ((Below.refl _ _).alloc (Nat.le_refl _) _) _))))
  go_wp2
  go_ret
  exact ⟨rfl, below_drewN ((Below.refl _ _).alloc (Nat.le_refl _) _) _⟩

/-- What members leaves where it asks: one call of Down noted, of the other; of Leased where Down says yes; itself alone where the lease is held. -/
def AskPost (w : World) (L : Nat) (dv : Value) (le : Bool) (ds : List ByteArray) (o self : ByteArray) (mv : Value) (e : Ending) (w' : World) : Prop :=
  w.grownBy w' (some L) ∧ (∃ g cp, Live w' L dv le (.slice (some ⟨g, 0, none⟩) 1 cp) (if has ds o then 1 else 0) ∧ g ≠ L ∧ w'.cell? ⟨g, 0, none⟩ = some (.string o)) ∧
  if has ds o && le then ∃ g2, e = .returned (.slice (some ⟨g2, 0, none⟩) 1 1) ∧ w.heap.size ≤ g2 ∧ w'.cell? ⟨g2, 0, none⟩ = some (.string self) ∧ Mine w' g2 else e = .returned mv

set_option maxHeartbeats 2000000 in
theorem mem_asks (G gm m cp L : Nat) (I commit : Int) (b off c : Nat) (s0 s1 o self : ByteArray) (w : World)
    (hI : I ≤ commit) (hm : (m : Int) + 1 ≤ 100000) (hh : has [s0, s1] self = true)
    (ho : ((s0.toList == self.toList) = true ∧ o = s1) ∨ ((s0.toList == self.toList) = false ∧ o = s0))
    (kg : w.cell? ⟨G, 23, none⟩ = some (.slice (some ⟨gm, 0, none⟩) (m + 1) cp))
    (kc : w.cell? ⟨G, 21, none⟩ = some (.int .u64 commit))
    (ks : w.cell? ⟨G, 1, none⟩ = some (.string self))
    (kv : w.cell? ⟨G, 4, none⟩ = some (.iface 31 (.pointer (some ⟨L, 0, none⟩))))
    (k0 : w.cell? ⟨gm, m * 2, none⟩ = some (.int .u64 I))
    (k1 : w.cell? ⟨gm, m * 2 + 1, none⟩ = some (.slice (some ⟨b, off, none⟩) 2 c))
    (hl : Lies w (some ⟨b, off, none⟩) [s0, s1])
    (ad : Option Addr) (dcap : Nat) (ds : List ByteArray) (le : Bool) (hLive : Live w L (.slice ad ds.length dcap) le (.slice none 0 0) 0) (hds : Lies w ad ds) (hdl : ds.length ≤ maxLen)
    (hGL : G ≠ L) (hdL : ∀ x, ad = some x → x.block ≠ L) :
    Calls Yba.prog 5 #[.pointer (some ⟨G, 0, none⟩)] w (AskPost w L (.slice ad ds.length dcap) le ds o self (.slice (some ⟨b, off, none⟩) 2 c)) := by
  have n1 := World.new_ne w _ kg
  have n2 := World.new_ne w _ k0
  have n3 := World.new_ne w _ k1
  have l1 : G < w.heap.size := World.block_lt_of_cell? w _ kc
  have b1 : (0 : Int) ≤ (m : Int) := by omega
  have b2 : (m : Int) < (m : Int) + 1 := by omega
  have b3 : IntKind.i64.wrap (m : Int) = (m : Int) := by rw [IntKind.wrap_i64]; omega
  have hd : decide (commit < I) = false := by simp; omega
  have hct : ∀ W, Below w.heap.size w W → Calls Yba.prog 8 #[.slice (some ⟨b, off, none⟩) 2 c, .string self] W fun e w' => e = .returned (.bool true) ∧ w' = W := by
    intro W hW
    have := contains_any (some ⟨b, off, none⟩) c [s0, s1] self W (by simp [maxLen]) (lies_later hl hW)
    rw [hh] at this
    exact this
  have HCT := (show Hid _ from hct)
  have c0 : w.cell? ⟨b, off, none⟩ = some (.string s0) := by
    rcases hl with h | ⟨b', off', h, hc⟩
    · cases h
    · cases h; simpa using hc 0 (by simp)
  have c1 : w.cell? ⟨b, off + 1, none⟩ = some (.string s1) := by
    rcases hl with h | ⟨b', off', h, hc⟩
    · cases h
    · cases h; simpa using hc 1 (by simp)
  have l2 : b < w.heap.size := World.block_lt_of_cell? w _ c0
  clear hct hh hl
  have HL := (show Hid _ from hLive)
  have HDS := (show Hid _ from hds)
  have HDL := (show Hid _ from hdL)
  clear hLive hds hdL
  rcases ho with ⟨ho, rfl⟩ | ⟨ho, rfl⟩
  all_goals
    go_enter Yba.func5, Yba.ntmps5
    go_wp2
    go_region_held3 (fun w' => w'.cell? ⟨G, 23, none⟩ = some (.slice (some ⟨gm, 0, none⟩) (m + 1) cp) ∧ w'.cell? ⟨gm, m * 2, none⟩ = some (.int .u64 I) ∧ w'.cell? ⟨gm, m * 2 + 1, none⟩ = some (.slice (some ⟨b, off, none⟩) 2 c)) (go_keep) (fail)
    go_wp2
    go_quiet ((go_at_call 8; exact quiet_of_same1 (HCT.out _ (below_drewN ((Below.refl _ _).alloc (Nat.le_refl _) _) _))))
    go_wp2_with fail
    refine (down_any L dcap ad ds le _ _ hdl HDL.out (live_later HL.out (below_drewN ((Below.refl _ _).alloc (Nat.le_refl _) _) _)) (lies_later HDS.out (below_drewN ((Below.refl _ _).alloc (Nat.le_refl _) _) _))).mono ?_
    rintro e w1 ⟨rfl, hgr, g, cpp, hL1, hgg, hgc⟩
    have hLlt : L < w.heap.size := lt_of_block HL.out
    have j1 : w1.cell? ⟨G, 1, none⟩ = some (.string self) := hgr.cell (cell_later (below_drewN ((Below.refl _ _).alloc (Nat.le_refl _) _) _) ks) (by simpa using hGL)
    have j4 : w1.cell? ⟨G, 4, none⟩ = some (.iface 31 (.pointer (some ⟨L, 0, none⟩))) := hgr.cell (cell_later (below_drewN ((Below.refl _ _).alloc (Nat.le_refl _) _) _) kv) (by simpa using hGL)
    have jm : w1.cell? ⟨w.heap.size, 1, none⟩ = some (.slice (some ⟨b, off, none⟩) 2 c) := hgr.cell (by simp) (by simp; omega)
    have hgrw : w.grownBy w1 (some L) := (grown_below (below_drewN ((Below.refl _ _).alloc (Nat.le_refl _) _) _)).trans hgr
    clear hgr n1 n2 n3 b1 b2 b3 hd kg kc k0 k1 c0 c1
    have HG := (show Hid _ from hgrw)
    have HL1 := (show Hid _ from hL1)
    have HGC := (show Hid _ from hgc)
    have HGG := (show Hid _ from hgg)
    clear hgrw hL1 hgc hgg
    cases hho : has ds _
    · go_wp2
      go_ret
      refine ⟨HG.out, ⟨g, cpp, ?_, HGG.out, HGC.out⟩, ?_⟩
      · rw [hho]; exact HL1.out
      · rw [hho]; rfl
    · go_wp2_with fail
      refine (leased_any L _ le _ w1 HL1.out).mono ?_
      rintro e w2 ⟨rfl, hgr2, hL2⟩
      have i1 : w2.cell? ⟨G, 1, none⟩ = some (.string self) := hgr2.cell j1 (by simpa using hGL)
      have im : w2.cell? ⟨w.heap.size, 1, none⟩ = some (.slice (some ⟨b, off, none⟩) 2 c) := hgr2.cell jm (by simp; omega)
      have ig := hgr2.cell HGC.out (by simpa using HGG.out)
      have igr := HG.out.trans hgr2
      have isz : w.heap.size ≤ w2.heap.size := igr.size
      have IG := (show Hid _ from ig)
      have IGR := (show Hid _ from igr)
      have IL := (show Hid _ from hL2)
      clear ig igr hL2 hgr2 j1 j4 jm HL1 HG HGC
      cases le
      · go_wp2
        go_ret
        refine ⟨IGR.out, ⟨g, cpp, ?_, HGG.out, IG.out⟩, ?_⟩
        · rw [hho]; exact IL.out
        · rw [hho]; rfl
      · go_wp2
        go_ret
        refine ⟨IGR.out.trans (World.grownBy_alloc _ _ _), ⟨g, cpp, ?_, HGG.out, ?_⟩, ?_⟩
        · rw [hho]; exact live_later IL.out ((Below.refl _ _).alloc (Nat.le_refl _) _)
        · exact cell_later ((Below.refl _ _).alloc (Nat.le_refl _) _) IG.out
        · rw [hho]
          exact ⟨_, rfl, isz, by simp, _, _, heap_alloc_new _ _⟩
end Go.Proofs.Ybulkebhu
