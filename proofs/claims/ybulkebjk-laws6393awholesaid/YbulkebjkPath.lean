import Derived.Test.YbulkebjkMap
namespace Go.Proofs.Ybulkebjk
open Go.RowKit
set_option linter.unusedVariables false

theorem Yba.info25 : (Yba.prog.info? 25).map (fun i => (i.zero, i.size, i.bytes)) = some (some (.pointer none), 1, 8) := by kernel_rfl

theorem neqp {g i j : Nat} {w : World} (hi : Mine w (g + 1 + i)) (hj : Mine w (g + 1 + j)) : (binOp .neq 25 (key g i) (key g j)).run Yba.prog w = .ok (.bool (decide (i ≠ j))) w := by
  have h := eqp hi hj
  simp only [binOp]
  simp [h]

def blk : Value → Nat
  | .pointer (some a) => a.block
  | _ => 0

theorem own_later {w W : World} {B : Nat} {e : TypeId} {size k : Nat} {v : Value} {xs : List Value} (h : w.ownsRow B e size v k xs) (hb : Below w.heap.size w W) : W.ownsRow B e size v k xs := by
  refine ⟨h.1, ?_⟩
  rcases h.2 with h0 | ⟨g, cap, cur, hv, h1, hg, h2⟩
  · exact Or.inl h0
  · exact Or.inr ⟨g, cap, cur, hv, h1, (hb.block _ (lt_of_block hg)).trans hg, h2⟩

theorem mine_later {w W : World} {b : Nat} (h : Mine w b) (hb : Below w.heap.size w W) : Mine W b := h.same (hb.block _ h.lt)

theorem own_one (w : World) (B : Nat) (v : Value) (h1 : v.oneCell' = true) (hB : B ≤ w.heap.size) : (w.alloc (.cells #[v] 25)).ownsRow B 25 1 (.slice (some ⟨w.heap.size, 0, none⟩) 1 1) 1 [v] :=
  ⟨rfl, Or.inr ⟨w.heap.size, 1, #[v], rfl, hB, heap_alloc_new _ _, Nat.le_refl _, by decide, rfl, rfl⟩⟩

set_option maxHeartbeats 4000000 in
set_option maxRecDepth 100000 in
theorem path_any (gs g gm n c j : Nat) (p : Nat → Nat) (w : World) (c1 : w.cell? ⟨gs, 1, none⟩ = some (key g 0)) (c2 : w.cell? ⟨gs, 2, none⟩ = some (.map (some gm)))
    (hM : ∀ i, i < n + 1 → Mine w (g + 1 + i)) (hm : w.heap[gm]? = some (.map (ents g p (n + 1)) c)) (hp : ∀ i, 0 < i → i ≤ n → p i < i) (hj : j ≤ n) (hn : n ≤ 65536) :
    Calls Yba.prog 4 #[.pointer (some ⟨gs, 0, none⟩), key g j] w fun e w' => ∃ b cap, e = .returned (.slice (some ⟨b, 0, none⟩) (0 :: up p j j).length cap) ∧
      w'.ownsRow w.heap.size 25 1 (.slice (some ⟨b, 0, none⟩) (0 :: up p j j).length cap) (0 :: up p j j).length ((0 :: up p j j).map (key g)) ∧ Below w.heap.size w w' := by
  obtain ⟨i0, hi, hz0, hz1, hz2⟩ := info_parts Yba.info25
  have hlen : (0 :: up p j j).length ≤ 65537 := by have := up_len hp j j (Nat.le_refl _) hj; simp; omega
  have HLEN := hid hlen
  have HM := hid hM
  have HP := hid hp
  have HMM := hid hm
  have C1 := hid c1
  have C2 := hid c2
  have HC : Hid (∃ ch, ch = 0 :: up p j j) := hid ⟨_, rfl⟩
  obtain ⟨ch, hch⟩ := HC.out
  rw [← hch] at hlen ⊢
  clear hM hp hm c2 hlen HC
  have HCH := hid hch
  clear hch
  go_enter Yba.func4, Yba.ntmps4
  go_wp2
  clear c1
  go_loopw [5, 6] (fun cv tv wr => ∃ (i : Nat) (xs : List Nat) (b cap : Nat), i ≤ n ∧ cv = .slice (some ⟨b, 0, none⟩) xs.length cap ∧ tv = key g i ∧ xs ++ up p i i = ch ∧
    wr.ownsRow w.heap.size 25 1 (.slice (some ⟨b, 0, none⟩) xs.length cap) xs.length (xs.map (key g)) ∧ Below w.heap.size w wr) (fun cv tv wr => blk tv - (g + 1))
  case atStart => exact ⟨j, [0], _, _, hj, rfl, rfl, by rw [HCH.out]; rfl, own_one w w.heap.size _ rfl (Nat.le_refl _), (Below.refl _ _).alloc (Nat.le_refl _) _⟩
  case round =>
    obtain ⟨i, xs, b, cap, hin, rfl, rfl, hxs, hown, hbw⟩ := hrel
    have hMr : ∀ i, i < n + 1 → Mine wr (g + 1 + i) := fun i hi => mine_later (HM.out i hi) hbw
    have hmr : wr.heap[gm]? = some (.map (ents g p (n + 1)) c) := (hbw.block _ (lt_of_block HMM.out)).trans HMM.out
    have c1 := cell_later hbw C1.out
    have c2 := cell_later hbw C2.out
    have hq := neqp (hMr i (by omega)) (hMr 0 (by omega))
    by_cases h0 : i = 0
    · subst h0
      have HX := hid hxs
      have HO := hid hown
      have HB := hid hbw
      clear hxs hown hbw hMr hmr
      go_wp2
      go_ret
      have e : xs = ch := by have := HX.out; simpa [up] using this
      subst e
      exact ⟨b, cap, rfl, HO.out, HB.out⟩
    · have hlt : xs.length < 65537 := by
        have h1 := HLEN.out
        rw [← HCH.out, ← hxs, up_step HP.out (by omega) hin] at h1
        simp at h1; omega
      have HX := hid hxs
      have HO := hid hown
      have HB := hid hbw
      clear hxs hown hbw hMr hmr
      go_wp2_with (at_builtin; refine wpList_append_lies _ rfl _ _ 24 rfl (w.heap.size) 25 i0 (.pointer none) 1 8 Yba.underlying24 hi hz0 hz1 hz2 rfl (by decide) (.slice (some ⟨b, 0, none⟩) xs.length cap) xs.length (xs.map (key g)) rfl (own_later HO.out ((Below.refl _ _).alloc (Nat.le_refl _) _)) ⟨wr.heap.size, 0, none⟩ 1 1 [key g i] rfl rfl (cell_one_new _ _ _) (by simp [Value.oneCell']) (by decide) (by unfold maxLen; omega) (by omega) (by have := HB.out.size; simp; omega) (wr.heap.size + 1) (by simp) ?_)
      intro g2 cap2 w2 hown2 hgrow2 hat2 hlt2
      have hbB : w.heap.size ≤ b := (HO.out.lt b rfl).1
      have hb2 : Below w.heap.size w w2 := (HB.out.alloc HB.out.size _).grown hgrow2 (by have := HB.out.size; simp; omega) (fun k hk => by simp [Value.ownBlock] at hk; omega)
      have hM2 : ∀ i, i < n + 1 → Mine w2 (g + 1 + i) := fun i hi => mine_later (HM.out i hi) hb2
      have hm2 : w2.heap[gm]? = some (.map (ents g p (n + 1)) c) := (hb2.block _ (lt_of_block HMM.out)).trans HMM.out
      have d2 := cell_later hb2 C2.out
      have hl := lookup_run hM2 (by omega : i < n + 1) hm2 false
      simp only [val, if_neg h0] at hl
      have HO2 := hid hown2
      have HB2 := hid hb2
      clear hown2 hgrow2 hat2 hb2 hM2 hm2 c1 c2 hq hbB
      go_wp2
      have hpi := HP.out i (by omega) hin
      refine ⟨⟨p i, xs ++ [i], g2, cap2, by omega, by simp, rfl, ?_, ?_, HB2.out⟩, ?_⟩
      · have := HX.out
        rw [up_step HP.out (by omega) hin] at this
        simpa using this
      · simpa using HO2.out
      · simp [blk]; omega
end Go.Proofs.Ybulkebjk
