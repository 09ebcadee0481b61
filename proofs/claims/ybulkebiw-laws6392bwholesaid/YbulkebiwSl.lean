import Derived.Test.YbulkebiwPtrs
import Derived.Deep.AppendLies
import Derived.Maps.AppendAt
namespace Go.Proofs.Ybulkebiw
open Go.RowKit
set_option linter.unusedVariables false

theorem Yba.info3 : (Yba.prog.info? 3).map (fun i => (i.zero, i.size, i.bytes)) = some (some (.int .i64 0), 1, 8) := by kernel_rfl

theorem nil62 (a : Option Addr) (n c : Nat) (W : World) : (binOp .eql 62 (.slice a n c) (.slice none 0 0)).run Yba.prog W = .ok (.bool a.isNone) W := by
  simp only [binOp]
  simp [show Op.equal 62 (.slice a n c) (.slice none 0 0) = Op.equalIn (9999 + 1) 62 (.slice a n c) (.slice none 0 0) from rfl, run_equalIn_slice_nil W 9999 62 3 a n c Yba.underlying62]
attribute [local go_sem] nil62

theorem quiet_below {W : World} (B : Nat) (w : World) (h : Below B w W) (k : Nat) : Below B w (W.drewN k) := ⟨h.os, h.tape, h.output, h.size, h.block⟩

set_option maxRecDepth 100000 in
set_option maxHeartbeats 1000000 in
/-- slices.Clone of a row that is not empty. -/
theorem clone_any (gp n : Nat) (P : Nat → Int) (w : World) (h0 : 0 < n) (hn : n ≤ 1048576) (hp : ∀ i, i < n → w.cell? ⟨gp, i, none⟩ = some (.int .i64 (P i))) :
    Calls Yba.prog 8 #[.slice (some ⟨gp, 0, none⟩) n n] w fun e w' => ∃ g cap, e = .returned (.slice (some ⟨g, 0, none⟩) n cap) ∧ (∀ i, i < n → w'.cell? ⟨g, i, none⟩ = some (.int .i64 (P i))) ∧ Below w.heap.size w w' := by
  obtain ⟨i0, hi, hz0, hz1, hz2⟩ := info_parts Yba.info3
  have HP := hid hp
  clear hp
  go_enter Yba.func8, Yba.ntmps8
  have hown : (w.alloc (.cells #[] 3)).ownsRow w.heap.size 3 1 (.slice (some ⟨w.heap.size, 0, none⟩) 0 0) 0 [] :=
    ⟨rfl, Or.inr ⟨w.heap.size, 0, #[], rfl, Nat.le_refl _, heap_alloc_new _ _, Nat.le_refl _, Nat.zero_le _, rfl, rfl⟩⟩
  have hnews : ∀ j u, ((List.range n).map fun i => Value.int .i64 (P i))[j]? = some u → (w.alloc (.cells #[] 3)).cell? ((⟨gp, 0, none⟩ : Addr).add j) = some u := fun j u hj => by
    have hl : j < n := by have := (List.getElem?_eq_some_iff.1 hj).1; simpa using this
    rw [Addr.add_lit, Nat.zero_add]
    refine cell_later ((Below.refl _ _).alloc (Nat.le_refl _) _) ?_
    rw [HP.out j hl]
    simp [hl] at hj
    rw [hj]
  go_wp2_with (at_builtin; refine wpList_append_lies _ rfl _ _ 62 rfl w.heap.size 3 i0 (.int .i64 0) 1 8 Yba.underlying62 hi hz0 hz1 hz2 rfl (by decide) (.slice (some ⟨w.heap.size, 0, none⟩) 0 0) 0 [] rfl hown ⟨gp, 0, none⟩ n n ((List.range n).map fun i => Value.int .i64 (P i)) rfl (by simp) hnews (by simp [Value.oneCell']) h0 (by unfold maxLen; omega) (by omega) (by simp) (w.heap.size + 1) (by simp) ?_)
  intro g cap w1 hown1 hgrow hat hlt
  have hb : Below w.heap.size w w1 := ((Below.refl _ _).alloc (Nat.le_refl _) _).grown hgrow (by simp) (fun k hk => by simp [Value.ownBlock] at hk; omega)
  have HC : Hid (∀ i, i < n → w1.cell? ⟨g, i, none⟩ = some (.int .i64 (P i))) := hid (fun i hi => by
    have := hown1.cells (g := g) rfl i (.int .i64 (P i)) (by simp [hi])
    rw [Addr.add_lit] at this
    simpa using this)
  have HB := hid hb
  clear hown hnews hown1 hgrow hat hb
  go_wp2
  go_ret
  exact ⟨g, cap, by simp, HC.out, HB.out⟩


set_option maxHeartbeats 1000000 in
theorem equal_any (g1 g2 c1 c2 n : Nat) (P : Nat → Int) (w : World) (hn : n ≤ 1048576) (h1 : ∀ i, i < n → w.cell? ⟨g1, i, none⟩ = some (.int .i64 (P i))) (h2 : ∀ i, i < n → w.cell? ⟨g2, i, none⟩ = some (.int .i64 (P i))) :
    Calls Yba.prog 10 #[.slice (some ⟨g1, 0, none⟩) n c1, .slice (some ⟨g2, 0, none⟩) n c2] w fun e w' => e = .returned (.bool true) ∧ Below w.heap.size w w' := by
  have H1 := hid h1
  have H2 := hid h2
  clear h1 h2
  go_enter Yba.func10, Yba.ntmps10
  go_wp2
  go_loopw [13] (fun i wr => ∃ k : Nat, k ≤ n ∧ i = .int .i64 k ∧ Below w.heap.size w wr) (fun i _ => n - (intOf i).toNat)
  case atStart => exact ⟨0, Nat.zero_le _, rfl, Below.refl _ _⟩
  case round =>
    obtain ⟨k, hk, rfl, hbw⟩ := hrel
    have HBW := hid hbw
    by_cases hkn : k < n
    · have e1 := cell_later hbw (H1.out k hkn)
      have e2 := cell_later hbw (H2.out k hkn)
      have b1 : (0 : Int) ≤ (k : Int) := by omega
      have b2 : (k : Int) < (n : Int) := by omega
      clear hbw
      go_wp2
      go_quiet (fail)
      go_wp2
      exact ⟨⟨k + 1, by omega, by go_num, quiet_below _ _ HBW.out _⟩, by simp [intOf]; omega⟩
    · have b2 : ¬ (k : Int) < (n : Int) := by omega
      clear hbw
      go_wp2
      go_ret
      exact ⟨rfl, HBW.out⟩
end Go.Proofs.Ybulkebiw
