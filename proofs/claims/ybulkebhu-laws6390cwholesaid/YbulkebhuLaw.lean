import Derived.Test.YbulkebhuSegA
import Derived.Handy
import Derived.Deep.DeepCutAuto
import Derived.Deep.CutBlock
namespace Go.Proofs.Ybulkebhu
open Go.RowKit
set_option linter.unusedVariables false

set_option maxHeartbeats 4000000 in
set_option maxRecDepth 100000 in
theorem law_walk (am : Option Addr) (bm om n cm : Nat) (commit : Int) (self other : ByteArray) (shape : Int) (ad : Option Addr) (ds : List ByteArray) (cd : Nat) (le : Bool) (w : World)
    (I : Nat → Int) (A : Nat → Option Addr) (S : Nat → List ByteArray) (C : Nat → Nat)
    (ham : ∀ i, i < n → am = some ⟨bm, om, none⟩ ∧ w.cell? ⟨bm, om + i * 2, none⟩ = some (.int .u64 (I i)) ∧ w.cell? ⟨bm, om + i * 2 + 1, none⟩ = some (.slice (A i) (S i).length (C i)) ∧ Lies w (A i) (S i) ∧ (S i).length * 16 ≤ 140737488351232)
    (hn : n ≤ maxLen) (hd : Lies w ad ds) (hdl : ds.length * 16 ≤ 140737488351232) :
    Calls Yba.prog 3 #[.slice am n cm, .int .u64 commit, .string self, .string other, .int .u8 shape, .slice ad ds.length cd, .bool le] w fun e w' => e = .returned (.bool true) ∧ Below w.heap.size w w' := by
  unfold maxLen at hn
  obtain ⟨nd, hnd⟩ : ∃ nd, nd = ds.length := ⟨_, rfl⟩
  rw [← hnd]
  rw [← hnd] at hdl
  have HND := hid hnd
  have HAM := hid ham
  have HD := hid hd
  clear hnd ham hd
  by_cases g1 : n ≤ 65536
  · by_cases g2 : nd ≤ 65536
    · go_enter Yba.func3, Yba.ntmps3
      go_wp2
      go_loop [15, 47] (fun t i => ∃ (k : Nat) (tt : Int), k ≤ n ∧ i = .int .i64 k ∧ t = .int .i64 tt) (fun _ i => n - (intOf i).toNat)
      case atStart => exact ⟨0, _, Nat.zero_le _, rfl, rfl⟩
      case round =>
        obtain ⟨k, tt, hk, rfl, rfl⟩ := hrel
        by_cases hlt : k < n
        ·
          obtain ⟨rfl, hc0, hc1, _, _⟩ := HAM.out k hlt
          go_wp2
          go_round
          case rel => exact ⟨k + 1, _, by omega, by go_num, rfl⟩
          case measure => simp [intOf]; omega
        · by_cases htot : 1048576 < tt
          · go_wp2
            go_ret
            exact ⟨rfl, Below.refl _ _⟩
          · obtain ⟨i0, hi, hz0, hz1, hz2⟩ := info_parts Yba.info30
            go_wp2_with (at_make; refine wpList_make_own _ rfl _ _ 27 rfl w.heap.size 30 i0 (.agg #[.int .u64 0, .slice none 0 0]) 2 Yba.underlying27 hi hz0 hz1 _ _ _ (n + 1) rfl rfl ?hC ?b2 ?b3 ?b4 ?_)
            case b2 => omega
            case b3 => unfold maxLen; omega
            intro w1 hown hgrow
            have hb1 : Below w.heap.size w w1 := (Below.refl _ _).grown hgrow (Nat.le_refl _) (fun k hk => by cases hk)
            clear hgrow
            have HO := hid hown
            have HB1 := hid hb1
            clear hown hb1
            have hL0 : Loop2 w w1 0 (.slice (some ⟨w.heap.size, 0, none⟩) 0 (n + 1)) := ⟨_, _, [], rfl, HO.out, fun i hi => absurd hi (Nat.not_lt_zero _), HB1.out⟩
            have HL0 : Hid (Loop2 w w1 0 (.slice (some ⟨w.heap.size, 0, none⟩) 0 (n + 1))) := hL0
            clear hL0 HO HB1
            go_wp2
            go_loopw [17, 67] (fun v i wr => ∃ k : Nat, k ≤ n ∧ i = .int .i64 k ∧ Loop2 w wr k v) (fun _ i _ => n - (intOf i).toNat)
            case atStart => exact ⟨0, Nat.zero_le _, rfl, HL0.out⟩
            case round =>
              obtain ⟨k, hk, rfl, g, cp, xs, rfl, hown, hrow, hbel⟩ := hrel
              by_cases hlt : k < n
              ·
                obtain ⟨rfl, hc0, hc1, hli, hsz⟩ := HAM.out k hlt
                have d0 : wr.cell? ⟨bm, om + k * 2, none⟩ = some (.int .u64 (I k)) := cell_later hbel hc0
                have d1 : wr.cell? ⟨bm, om + k * 2 + 1, none⟩ = some (.slice (A k) (S k).length (C k)) := cell_later hbel hc1
                have b1 : (0 : Int) ≤ (k : Int) := by omega
                have b2 : (k : Int) < (n : Int) := by omega
                have HLI : Hid (Lies w (A k) (S k)) := hli
                have HOW := hid hown
                have HRW := hid hrow
                have HBE := hid hbel
                have hbm : bm < w.heap.size := World.block_lt_of_cell? _ _ hc0
                clear hli hc0 hc1 hown hrow hbel
                go_wp2
                have hszw : w.heap.size ≤ wr.heap.size := HBE.out.size
                have hbg : some bm ≠ (Value.slice (some ⟨g, 0, none⟩) k cp).ownBlock := by
                  have h1 := (owns_lt HOW.out).1
                  have h2 : bm < w.heap.size := hbm
                  simp [Value.ownBlock]; omega
                go_region_held3 (fun w' => w'.cell? ⟨bm, om + k * 2, none⟩ = some (.int .u64 (I k)) ∧ w'.cell? ⟨bm, om + k * 2 + 1, none⟩ = some (.slice (A k) (S k).length (C k))) (go_keep)
                  (first
                    | (go_at_call 4; refine (copy_any (A k) (C k) (S k) _ (by omega) (lies_later HLI.out HBE.out.drew)).mono ?_; rintro e w2 ⟨a2, c2, rfl, hnil2, hb2, hl2, hblk2⟩; have e0 : w2.cell? ⟨bm, om + k * 2, none⟩ = some (.int .u64 (I k)) := cell_later hb2 d0; have e1 : w2.cell? ⟨bm, om + k * 2 + 1, none⟩ = some (.slice (A k) (S k).length (C k)) := cell_later hb2 d1)
                    | (have _t := hb2; refine step_append_lies _ (by rfl) _ _ _ (by rfl) w.heap.size 30 i0 (.agg #[.int .u64 0, .slice none 0 0]) 2 32 Yba.underlying27 hi hz0 hz1 hz2 (by rfl) (by omega) (.slice (some ⟨g, 0, none⟩) k cp) k xs (by rfl) ((own_later HOW.out.drew hb2).alloc _) ⟨w2.heap.size, 0, none⟩ 1 1 [.int .u64 (I k), .slice a2 (S k).length c2] (by rfl) (by rfl) (World.news_of_block (heap_alloc_new _ _)) (by simp [Value.oneCell']) (by omega) (by unfold maxLen; omega) (by omega) (by have := hb2.size; simp at this ⊢; omega) (w2.heap.size + 1) (by simp) ?_; intro g3 cp3 w3 hown3 hgrow3 hat3 hlt3; have e3 : w3.cell? ⟨bm, om + k * 2, none⟩ = some (.int .u64 (I k)) := hgrow3.cell (cell_later ((Below.refl _ _).alloc (Nat.le_refl _) _) e0) hbg; have e4 : w3.cell? ⟨bm, om + k * 2 + 1, none⟩ = some (.slice (A k) (S k).length (C k)) := hgrow3.cell (cell_later ((Below.refl _ _).alloc (Nat.le_refl _) _) e1) hbg))
                have hnew : Cell2 (w2.alloc (.cells #[.int .u64 (I k), .slice a2 (S k).length c2] 30)) g (.int .u64 (I k)) (.slice a2 (S k).length c2) := by
                  refine ⟨I k, a2, S k, c2, rfl, rfl, lies_later hl2 ((Below.refl _ _).alloc (Nat.le_refl _) _), hsz, fun ad had => ⟨?_, ?_⟩⟩
                  · have := (hblk2 ad had).1
                    have h1 := (owns_lt HOW.out).2
                    have h2 : wr.drew.heap.size = wr.heap.size := rfl
                    omega
                  · exact (hblk2 ad had).2.same (Below.heap_alloc _ _ _ (hblk2 ad had).2.lt)
                have hb3 : Below wr.heap.size wr w2 := ⟨hb2.os, hb2.tape, hb2.output, hb2.size, hb2.block⟩
                have hst := loop2_step (w0 := w) (HBE.out.trans ((hb3.mono hszw).alloc (Nat.le_trans hszw hb3.size) _)) (owns_lt HOW.out).1 (owns_len HOW.out) ((HRW.out.grown (grown_below hb3)).grown (World.grownBy_alloc _ _ _)) hnew hown3 hgrow3 (by simpa [Value.ownBlock] using hat3)
                have HST := hid hst
                clear hst hnew hown3 hgrow3 hat3 hlt3 e0 e1 e3 e4 hl2 hblk2 hb2 hb3 hnil2
                go_wp2
                go_roundw
                case rel => exact ⟨k + 1, by omega, by go_num, HST.out⟩
                case measure => simp [intOf]; omega
              · obtain rfl : n = k := by omega
                have HL : Hid (Loop2 w wr n (.slice (some ⟨g, 0, none⟩) n cp)) := ⟨g, cp, xs, rfl, hown, hrow, hbel⟩
                have hszw : w.heap.size ≤ wr.heap.size := hbel.size
                have HOW := hid hown
                have HRW := hid hrow
                have HBE := hid hbel
                clear hown hrow hbel hk hlt HL0
                go_upto_if 88 with fail
                go_cut [17] (fun v wc => ∃ m, 0 < m ∧ m ≤ 65537 ∧ Loop2 w wc m v)
                case first =>
                  by_cases hk0 : n = 0
                  · subst hk0
                    go_wp2_with (at_builtin; go_must (refine wpList_append_lies _ rfl _ _ 27 rfl (w.heap.size) 30 i0 (.agg #[.int .u64 0, .slice none 0 0]) 2 32 Yba.underlying27 hi hz0 hz1 hz2 rfl (by decide) (.slice (some ⟨g, 0, none⟩) 0 cp) 0 xs rfl (HOW.out.alloc _) ⟨wr.heap.size, 0, none⟩ 1 1 [.int .u64 0, .slice none 0 0] rfl rfl (World.news_of_block (heap_alloc_new _ _)) (by simp [Value.oneCell']) (by decide) (by decide) (by decide) (by simp; omega) (wr.heap.size + 1) (by simp) ?_))
                    intro g3 cp3 w3 hown3 hgrow3 hat3 hlt3
                    have hst := loop2_step (w0 := w) (HBE.out.alloc hszw _) (owns_lt HOW.out).1 (owns_len HOW.out) (HRW.out.grown (World.grownBy_alloc _ _ _)) ⟨0, none, [], 0, rfl, rfl, Or.inl rfl, by simp, fun ad had => by cases had⟩ hown3 hgrow3 (by simpa [Value.ownBlock] using hat3)
                    have HST := hid hst
                    clear hst hown3 hgrow3 hat3 hlt3
                    go_wp2
                    go_meet
                    case rel => exact ⟨1, by omega, by omega, HST.out⟩
                  · have hz : ((n : Int) == 0) = false := by simp; omega
                    have hp : 0 < n := by omega
                    clear hk0
                    go_wp2
                    go_meet
                    case rel => exact ⟨n, hp, by omega, HL.out⟩
                case rest =>
                  clear HL HOW HRW HBE
                  obtain ⟨m, hm0, hm, hl2⟩ := hcut
                  obtain ⟨m, rfl⟩ : ∃ m', m = m' + 1 := ⟨m - 1, by omega⟩
                  obtain ⟨g4, cp4, rfl, hms⟩ := loop2_ms hl2
                  clear hl2 hm0
                  go_step
                  have hnd := HND.out
                  subst hnd
                  exact segA commit self other shape g4 m cp4 ad cd ds le w wc hm hms HD.out hdl
    · go_enter Yba.func3, Yba.ntmps3
      go_wp2
      go_ret
      exact ⟨rfl, Below.refl _ _⟩
  · go_enter Yba.func3, Yba.ntmps3
    go_wp2
    go_ret
    exact ⟨rfl, Below.refl _ _⟩
end Go.Proofs.Ybulkebhu
