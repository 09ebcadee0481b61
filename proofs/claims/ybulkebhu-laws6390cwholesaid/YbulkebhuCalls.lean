import Derived.Test.YbulkebhuRows
import Derived.WalkKit
import Derived.WalkSpells
import Derived.WalkLawsBesides
import Derived.Deep.QuietTactic
import Derived.BigQuiet
import Derived.BigRegion
import Derived.Deep.RegionHeld3
import Derived.Deep.LoopGhost
import Derived.Laws.CopyOwn
import Derived.Deep.AppendLies
import Derived.Maps.AppendAt
import Derived.OneCell
namespace Go.Proofs.Ybulkebhu
open Go.RowKit

theorem hid {p : Prop} (h : p) : Hid p := h

/-- One of the strings is x, byte for byte. -/
def has (ss : List ByteArray) (x : ByteArray) : Bool := ss.any fun s => s.toList == x.toList

theorem has_hit (ss : List ByteArray) (x : ByteArray) (k : Nat) (h : k < ss.length) (e : (ss[k].toList == x.toList) = true) : has ss x = true := by
  unfold has
  exact List.any_eq_true.2 ⟨ss[k], List.getElem_mem h, e⟩

theorem has_step (ss : List ByteArray) (x : ByteArray) (k : Nat) (h : k < ss.length) (hn : has (ss.take k) x = false) (e : (ss[k].toList == x.toList) = false) : has (ss.take (k + 1)) x = false := by
  unfold has at *
  rw [List.take_succ_eq_append_getElem h, List.any_append, hn]
  simp [e]

theorem has_all (ss : List ByteArray) (x : ByteArray) (k : Nat) (h : ¬ k < ss.length) (hn : has (ss.take k) x = false) : has ss x = false := by
  rwa [List.take_of_length_le (by omega)] at hn

/-- The strings ss lie behind the address a (where there is one to be read). -/
def Lies (w : World) (a : Option Addr) (ss : List ByteArray) : Prop :=
  ss = [] ∨ ∃ b off, a = some ⟨b, off, none⟩ ∧ ∀ i, i < ss.length → w.cell? ⟨b, off + i, none⟩ = some (.string (ss.getD i ByteArray.empty))

set_option maxHeartbeats 400000 in
theorem contains_some (b off cap : Nat) (ss : List ByteArray) (x : ByteArray) (w : World) (hl : ss.length ≤ maxLen)
    (hc : ∀ i, i < ss.length → w.cell? ⟨b, off + i, none⟩ = some (.string (ss.getD i ByteArray.empty))) :
    Calls Yba.prog 8 #[.slice (some ⟨b, off, none⟩) ss.length cap, .string x] w fun e w' => e = .returned (.bool (has ss x)) ∧ w' = w := by
  unfold maxLen at hl
  go_enter Yba.func8, Yba.ntmps8
  go_wp2
  go_loop [9] (fun i => ∃ k : Nat, k ≤ ss.length ∧ i = .int .i64 k ∧ has (ss.take k) x = false) (fun i => ss.length - (intOf i).toNat)
  case atStart => exact ⟨0, Nat.zero_le _, rfl, rfl⟩
  case round =>
    obtain ⟨k, hk, rfl, hn⟩ := hrel
    have HN : Hid (has (ss.take k) x = false) := hn
    clear hn
    by_cases hlt : k < ss.length
    · have hck := hc k hlt
      go_wp2
      · go_ret
        exact ⟨by rw [has_hit ss x k hlt (by assumption)]; rfl, rfl⟩
      · go_round
        case rel => exact ⟨k + 1, by omega, by go_num, has_step ss x k hlt HN.out (by assumption)⟩
        case measure => simp [intOf]; omega
    · go_wp2
      go_ret
      exact ⟨by rw [has_all ss x k hlt HN.out]; rfl, rfl⟩

theorem contains_none (a : Option Addr) (cap : Nat) (x : ByteArray) (w : World) :
    Calls Yba.prog 8 #[.slice a 0 cap, .string x] w fun e w' => e = .returned (.bool (has [] x)) ∧ w' = w := by
  go_enter Yba.func8, Yba.ntmps8
  go_wp2
  refine wp_loop_rounds 1 ?_
  rw [rounds_succ]
  go_wp2
  go_ret
  exact ⟨rfl, rfl⟩

theorem contains_any (a : Option Addr) (cap : Nat) (ss : List ByteArray) (x : ByteArray) (w : World) (hl : ss.length ≤ maxLen) (h : Lies w a ss) :
    Calls Yba.prog 8 #[.slice a ss.length cap, .string x] w fun e w' => e = .returned (.bool (has ss x)) ∧ w' = w := by
  rcases h with rfl | ⟨b, off, rfl, hc⟩
  · exact contains_none a cap x w
  · exact contains_some b off cap ss x w hl hc

set_option maxHeartbeats 400000 in
theorem in_some (b off cap : Nat) (ss : List ByteArray) (x : ByteArray) (w : World) (hl : ss.length ≤ maxLen)
    (hc : ∀ i, i < ss.length → w.cell? ⟨b, off + i, none⟩ = some (.string (ss.getD i ByteArray.empty))) :
    Calls Yba.prog 6 #[.slice (some ⟨b, off, none⟩) ss.length cap, .string x] w fun e w' => e = .returned (.bool (has ss x)) ∧ w' = w := by
  unfold maxLen at hl
  go_enter Yba.func6, Yba.ntmps6
  go_wp2
  go_loop [5] (fun i => ∃ k : Nat, k ≤ ss.length ∧ i = .int .i64 k ∧ has (ss.take k) x = false) (fun i => ss.length - (intOf i).toNat)
  case atStart => exact ⟨0, Nat.zero_le _, rfl, rfl⟩
  case round =>
    obtain ⟨k, hk, rfl, hn⟩ := hrel
    have HN : Hid (has (ss.take k) x = false) := hn
    clear hn
    by_cases hlt : k < ss.length
    · have hck := hc k hlt
      go_wp2
      · go_ret
        exact ⟨by rw [has_hit ss x k hlt (by assumption)]; rfl, rfl⟩
      · go_round
        case rel => exact ⟨k + 1, by omega, by go_num, has_step ss x k hlt HN.out (by assumption)⟩
        case measure => simp [intOf]; omega
    · go_wp2
      go_ret
      exact ⟨by rw [has_all ss x k hlt HN.out]; rfl, rfl⟩

theorem in_none (a : Option Addr) (cap : Nat) (x : ByteArray) (w : World) :
    Calls Yba.prog 6 #[.slice a 0 cap, .string x] w fun e w' => e = .returned (.bool (has [] x)) ∧ w' = w := by
  go_enter Yba.func6, Yba.ntmps6
  go_wp2
  refine wp_loop_rounds 1 ?_
  rw [rounds_succ]
  go_wp2
  go_ret
  exact ⟨rfl, rfl⟩

theorem in_any (a : Option Addr) (cap : Nat) (ss : List ByteArray) (x : ByteArray) (w : World) (hl : ss.length ≤ maxLen) (h : Lies w a ss) :
    Calls Yba.prog 6 #[.slice a ss.length cap, .string x] w fun e w' => e = .returned (.bool (has ss x)) ∧ w' = w := by
  rcases h with rfl | ⟨b, off, rfl, hc⟩
  · exact in_none a cap x w
  · exact in_some b off cap ss x w hl hc

set_option maxHeartbeats 400000 in
theorem eq_some (b off cap b' off' cap' : Nat) (ss : List ByteArray) (w : World) (hl : ss.length ≤ maxLen)
    (hc : ∀ i, i < ss.length → w.cell? ⟨b, off + i, none⟩ = some (.string (ss.getD i ByteArray.empty)))
    (hc' : ∀ i, i < ss.length → w.cell? ⟨b', off' + i, none⟩ = some (.string (ss.getD i ByteArray.empty))) :
    Calls Yba.prog 7 #[.slice (some ⟨b, off, none⟩) ss.length cap, .slice (some ⟨b', off', none⟩) ss.length cap'] w fun e w' => e = .returned (.bool true) ∧ ∃ n, w' = w.drewN n := by
  unfold maxLen at hl
  have q : ∀ (w : World) (a : Option Addr) (n c : Nat), (binOp .eql 24 (.slice a n c) (.slice none 0 0)).run Yba.prog w = .ok (.bool a.isNone) w := fun w a n c => Lib.run_eql_slice_nil w 24 9 a n c 0 0 Yba.underlying24
  go_enter Yba.func7, Yba.ntmps7
  go_wp2
  go_loopw [20] (fun i wr => ∃ k n : Nat, k ≤ ss.length ∧ i = .int .i64 k ∧ wr = w.drewN n) (fun i _ => ss.length - (intOf i).toNat)
  case atStart => exact ⟨0, 0, Nat.zero_le _, rfl, rfl⟩
  case round =>
    obtain ⟨k, n, hk, rfl, rfl⟩ := hrel
    by_cases hlt : k < ss.length
    · have hck := hc k hlt
      have hck' := hc' k hlt
      go_wp2
      go_quiet (fail)
      go_wp2
      go_roundw
      case rel => exact ⟨k + 1, _, by omega, by go_num, rfl⟩
      case measure => simp [intOf]; omega
    · go_wp2
      go_ret
      exact ⟨rfl, _, rfl⟩

theorem eq_none (a a' : Option Addr) (cap cap' : Nat) (w : World) (ha : a.isNone = a'.isNone) :
    Calls Yba.prog 7 #[.slice a 0 cap, .slice a' 0 cap'] w fun e w' => e = .returned (.bool true) ∧ ∃ n, w' = w.drewN n := by
  have q : ∀ (w : World) (a : Option Addr) (n c : Nat), (binOp .eql 24 (.slice a n c) (.slice none 0 0)).run Yba.prog w = .ok (.bool a.isNone) w := fun w a n c => Lib.run_eql_slice_nil w 24 9 a n c 0 0 Yba.underlying24
  go_enter Yba.func7, Yba.ntmps7
  go_wp2
  refine wp_loop_rounds 1 ?_
  rw [rounds_succ]
  go_wp2
  go_ret
  exact ⟨rfl, 0, rfl⟩

theorem eq_any (a a' : Option Addr) (cap cap' : Nat) (ss : List ByteArray) (w : World) (hl : ss.length ≤ maxLen) (ha : a.isNone = a'.isNone) (h : Lies w a ss) (h' : Lies w a' ss) :
    Calls Yba.prog 7 #[.slice a ss.length cap, .slice a' ss.length cap'] w fun e w' => e = .returned (.bool true) ∧ ∃ n, w' = w.drewN n := by
  rcases h with rfl | ⟨b, off, rfl, hc⟩
  · exact eq_none a a' cap cap' w ha
  · rcases h' with rfl | ⟨b', off', rfl, hc'⟩
    · exact eq_none _ a' cap cap' w ha
    · exact eq_some b off cap b' off' cap' ss w hl hc hc'

theorem Yba.info9 : (Yba.prog.info? 9).map (fun i => (i.zero, i.size, i.bytes)) = some (some (.string ByteArray.empty), 1, 16) := by kernel_rfl
theorem Yba.size9 : (Yba.prog.info? 9).map (·.size) = some 1 := by kernel_rfl

theorem strs_oneCell (ss : List ByteArray) : ∀ u ∈ ss.map Value.string, u.oneCell' = true := by
  intro u hu
  obtain ⟨_, _, rfl⟩ := List.mem_map.1 hu
  rfl

theorem lies_block {w : World} {g : Nat} {ss : List ByteArray} {t : TypeId} {X : List Value} (h : w.heap[g]? = some (.cells X.toArray t (0, 0))) (hX : X = ss.map Value.string) : Lies w (some ⟨g, 0, none⟩) ss := by
  subst hX
  refine Or.inr ⟨g, 0, rfl, fun i hi => ?_⟩
  rw [Nat.zero_add, cell_of_row w g i _ t (0, 0) h]
  simp [hi]

/-- The row that a slice at a block's head owns, as a list. -/
theorem owns_block {w : World} {base g n cap : Nat} {e : TypeId} {size : Nat} {xs : List Value} (h : w.ownsRow base e size (.slice (some ⟨g, 0, none⟩) n cap) n xs) :
    ∃ cur : List Value, w.heap[g]? = some (.cells cur.toArray e (0, 0)) ∧ cur.length = cap * size := by
  rcases h.2 with ⟨h0, _⟩ | ⟨g', cap', cur, hv, _, hh, _, _, hs, _⟩
  · simp at h0
  · simp at hv
    obtain ⟨rfl, rfl⟩ := hv
    exact ⟨cur.toList, by simpa using hh, by simpa using hs⟩

theorem splice_whole {cur cs : List Value} (h : cs.length = cur.length) : splice cur 0 cs = cs := by
  simp [splice, h]

set_option maxHeartbeats 400000 in
theorem copy_some (ad : Addr) (cap : Nat) (ss : List ByteArray) (w : World) (hl : ss.length * 16 ≤ 281474976710656) (h : Lies w (some ad) ss) :
    Calls Yba.prog 4 #[.slice (some ad) ss.length cap] w fun e w' => e = .returned (.slice (some ⟨w.heap.size, 0, none⟩) ss.length ss.length) ∧ Below w.heap.size w w' ∧
      w'.heap[w.heap.size]? = some (.cells (ss.map Value.string).toArray 9 (0, 0)) := by
  have q : ∀ (w : World) (a : Option Addr) (n c : Nat), (binOp .eql 24 (.slice a n c) (.slice none 0 0)).run Yba.prog w = .ok (.bool a.isNone) w := fun w a n c => Lib.run_eql_slice_nil w 24 9 a n c 0 0 Yba.underlying24
  obtain ⟨i0, hi, hz0, hz1, hz2⟩ := info_parts Yba.info9
  obtain ⟨n, hn⟩ : ∃ n, n = ss.length := ⟨_, rfl⟩
  obtain ⟨X, hX⟩ : ∃ X, X = ss.map Value.string := ⟨_, rfl⟩
  rw [← hn, ← hX]
  rw [← hn] at hl
  have hX1 : ∀ v ∈ X, v.oneCell' = true := by rw [hX]; exact strs_oneCell ss
  have HXn : Hid (X.length = n) := by rw [hX, hn]; simp [Hid]
  have hsrc : ∀ (w1 : World), Below w.heap.size w w1 → 0 < X.length → ∃ ad', some ad = some ad' ∧ ∀ j v, X[j]? = some v → w1.cell? (ad'.add j) = some v := by
    intro w1 hb h0
    refine ⟨ad, rfl, fun j v hj => ?_⟩
    rcases h with rfl | ⟨b, off, hd, hc⟩
    · simp [hX] at h0
    · cases hd
      have hj' : j < ss.length := by have := (List.getElem?_eq_some_iff.1 hj).1; simpa [hX] using this
      rw [Addr.add_lit]
      refine cell_later hb ?_
      rw [hc j hj']
      rw [hX] at hj
      simp [hj'] at hj
      simp [hj', hj]
  have HS := (show Hid _ from hsrc)
  have HX1 := (show Hid _ from hX1)
  clear hn hX h hsrc hX1
  go_enter Yba.func4, Yba.ntmps4
  go_wp2_with (at_make; refine wpList_make_full _ rfl _ _ 24 rfl w.heap.size 9 i0 (.string ByteArray.empty) 1 Yba.underlying24 hi hz0 hz1 _ _ _ _ n rfl rfl rfl rfl ?b2 ?b3 ?b4 ?_)
  case b2 => rw [hz2]; omega
  case b3 => unfold maxLen; omega
  case b4 => exact Nat.le_refl _
  intro w1 hown hgrow
  have hb : Below w.heap.size w w1 := (Below.refl _ _).grown hgrow (Nat.le_refl _) (fun k hk => by cases hk)
  obtain ⟨cur, hcur, hlen⟩ := owns_block hown
  rw [Nat.mul_one] at hlen
  have HC : Hid (w1.heap[w.heap.size]? = some (.cells cur.toArray 9 (0, 0))) := hcur
  have HLn : Hid (cur.length = n) := hlen
  clear hown hcur hlen hgrow
  have HB : Hid (Below w.heap.size w w1) := hb
  clear hb
  go_wp2_with (refine wpList_copy_splice rfl (.tmp 9) (.tmp 10) 24 24 rfl 9 Yba.underlying24 Yba.size9 (some ⟨w.heap.size, 0, none⟩) (some ad) n n n cap rfl rfl w.heap.size 0 cur 9 HC.out X (by rw [HXn.out]; simp) (fun h0 => ⟨rfl, HS.out w1 HB.out h0⟩) (by rw [HXn.out, HLn.out]; omega) HX1.out w.heap.size w HB.out (Nat.le_refl _) ?_)
  intro w2 hg2 hb2
  have hg3 := hg2.out
  rw [splice_whole (by rw [HXn.out, HLn.out])] at hg3
  have HG : Hid (w2.heap[w.heap.size]? = some (.cells X.toArray 9 (0, 0))) := hg3
  clear hg2 hg3
  go_wp2
  go_ret
  exact ⟨rfl, hb2, HG.out⟩

theorem copy_nil (cap : Nat) (w : World) :
    Calls Yba.prog 4 #[.slice none 0 cap] w fun e w' => e = .returned (.slice none 0 0) ∧ w' = w := by
  have q : ∀ (w : World) (a : Option Addr) (n c : Nat), (binOp .eql 24 (.slice a n c) (.slice none 0 0)).run Yba.prog w = .ok (.bool a.isNone) w := fun w a n c => Lib.run_eql_slice_nil w 24 9 a n c 0 0 Yba.underlying24
  go_enter Yba.func4, Yba.ntmps4
  go_wp2
  go_ret
  exact ⟨rfl, rfl⟩

theorem lies_nil {w : World} {ss : List ByteArray} (h : Lies w none ss) : ss = [] := by
  rcases h with h | ⟨b, off, h, _⟩
  · exact h
  · cases h

/-- A block of cells none of which is frozen. -/
def Mine (w : World) (b : Nat) : Prop := ∃ cs t, w.heap[b]? = some (.cells cs t (0, 0))

theorem Mine.lt {w : World} {b : Nat} (h : Mine w b) : b < w.heap.size := by
  obtain ⟨cs, t, h⟩ := h
  exact lt_of_block h

theorem Mine.same {w w' : World} {b : Nat} (h : Mine w b) (e : w'.heap[b]? = w.heap[b]?) : Mine w' b := by
  obtain ⟨cs, t, h⟩ := h
  exact ⟨cs, t, e.trans h⟩

/-- A copy: the same strings in a new block, nil where it was nil. -/
theorem copy_any (a : Option Addr) (cap : Nat) (ss : List ByteArray) (w : World) (hl : ss.length * 16 ≤ 281474976710656) (h : Lies w a ss) :
    Calls Yba.prog 4 #[.slice a ss.length cap] w fun e w' => ∃ a' cap', e = .returned (.slice a' ss.length cap') ∧ a'.isNone = a.isNone ∧ Below w.heap.size w w' ∧ Lies w' a' ss ∧
      (∀ ad, a' = some ad → w.heap.size ≤ ad.block ∧ Mine w' ad.block) := by
  cases a with
  | none =>
    have := lies_nil h
    subst this
    refine (copy_nil cap w).mono ?_
    rintro e w' ⟨rfl, rfl⟩
    exact ⟨none, 0, rfl, rfl, Below.refl _ _, Or.inl rfl, fun ad h => by cases h⟩
  | some ad =>
    refine (copy_some ad cap ss w hl h).mono ?_
    rintro e w' ⟨rfl, hb, hg⟩
    exact ⟨_, _, rfl, rfl, hb, lies_block hg rfl, fun ad h => by cases h; exact ⟨Nat.le_refl _, _, _, hg⟩⟩

/-! ### Blocks, stores, worlds that turn one block alone -/
theorem block_setCell {w : World} {b o : Nat} {u : Value} {cs : Array Value} {t : TypeId} {fr : Nat × Nat} (h : w.heap[b]? = some (.cells cs t fr)) :
    (w.setCell ⟨b, o, none⟩ u).heap[b]? = some (.cells (cs.setIfInBounds o u) t fr) := by
  simp [World.setCell, Array.getElem?_modify, h]

theorem grown_setCell (w : World) (b o : Nat) (u : Value) : w.grownBy (w.setCell ⟨b, o, none⟩ u) (some b) :=
  ⟨rfl, rfl, rfl, by simp [World.setCell], fun k _ hk => Below.heap_setCell _ _ _ _ (by simpa using fun e => hk (by rw [e]))⟩

theorem grown_weaken {w w' : World} {r : Option Nat} (h : w.grownBy w' none) : w.grownBy w' r :=
  ⟨h.os, h.tape, h.output, h.size, fun k hk _ => h.block k hk (by simp)⟩

theorem grown_below {w w' : World} {r : Option Nat} (h : Below w.heap.size w w') : w.grownBy w' r :=
  ⟨h.os, h.tape, h.output, h.size, fun k hk _ => h.block k hk⟩

theorem lies_grown {w w' : World} {L : Nat} {a : Option Addr} {ss : List ByteArray} (h : Lies w a ss) (hg : w.grownBy w' (some L)) (hne : ∀ ad, a = some ad → ad.block ≠ L) : Lies w' a ss := by
  rcases h with rfl | ⟨b, off, rfl, hc⟩
  · exact Or.inl rfl
  · refine Or.inr ⟨b, off, rfl, fun i hi => ?_⟩
    exact hg.cell (hc i hi) (by simpa using hne _ rfl)

/-- The stand-in for the cluster's view, in its block: the list asked, the lease, the calls noted. -/
def Live (w : World) (L : Nat) (dv : Value) (le : Bool) (calls : Value) (n : Int) : Prop :=
  w.heap[L]? = some (.cells #[dv, .bool le, calls, .int .i64 n, .int .i64 0] 33 (0, 0))

/-- What Down leaves: its answer; one call noted; nothing else turned. -/
def DownPost (w : World) (L : Nat) (dv : Value) (le : Bool) (ds : List ByteArray) (x : ByteArray) (e : Ending) (w' : World) : Prop :=
  e = .returned (.bool (has ds x)) ∧ w.grownBy w' (some L) ∧ ∃ g cp, Live w' L dv le (.slice (some ⟨g, 0, none⟩) 1 cp) 0 ∧ g ≠ L ∧ w'.cell? ⟨g, 0, none⟩ = some (.string x)

set_option maxHeartbeats 400000 in
theorem down_some (L b off cap : Nat) (ds : List ByteArray) (le : Bool) (x : ByteArray) (w : World) (hl : ds.length ≤ maxLen) (hbL : b ≠ L)
    (hL : Live w L (.slice (some ⟨b, off, none⟩) ds.length cap) le (.slice none 0 0) 0)
    (hc : ∀ i, i < ds.length → w.cell? ⟨b, off + i, none⟩ = some (.string (ds.getD i ByteArray.empty))) :
    Calls Yba.prog 24 #[.pointer (some ⟨L, 0, none⟩), .string x] w (DownPost w L (.slice (some ⟨b, off, none⟩) ds.length cap) le ds x) := by
  unfold maxLen at hl
  obtain ⟨i0, hi, hz0, hz1, hz2⟩ := info_parts Yba.info9
  have hlt := lt_of_block hL
  have c2 : w.cell? ⟨L, 2, none⟩ = some (.slice none 0 0) := by rw [cell_of_row w L 2 _ _ _ hL]; rfl
  go_enter Yba.func24, Yba.ntmps24
  go_wp2_with (at_builtin; refine wpList_append_lies _ rfl _ _ 24 rfl (w.heap.size) 9 i0 (.string ByteArray.empty) 1 16 Yba.underlying24 hi hz0 hz1 hz2 rfl (by decide) (.slice none 0 0) 0 [] rfl (World.ownsRow_nil _ _ _ _) ⟨w.heap.size, 0, none⟩ 1 1 [.string x] rfl rfl (cell_one_new _ _ _) (by simp [Value.oneCell']) (by decide) (by decide) (by decide) (by simp) (w.heap.size + 1) (by simp) ?_)
  intro g cp w1 hown hgrow hat hlt1
  have hg : g = w.heap.size + 1 := by first | exact hat | simpa [Value.ownBlock] using hat
  have hgr : w.grownBy w1 (some L) := (World.grownBy_alloc w _ _).trans (grown_weaken (by simpa [Value.ownBlock] using hgrow))
  have hL1 : Live w1 L (.slice (some ⟨b, off, none⟩) ds.length cap) le (.slice none 0 0) 0 := by
    unfold Live at hL ⊢
    rw [hgrow.block L (by simp; omega) (by simp [Value.ownBlock]), Below.heap_alloc _ _ _ hlt]
    exact hL
  have hgc : w1.cell? ⟨g, 0, none⟩ = some (.string x) := by
    have := hown.cells (g := g) rfl 0 (.string x) (by simp)
    simpa [Addr.add] using this
  have hgL : g ≠ L := by omega
  have k1 : w1.cell? ⟨L, 2, none⟩ = some (.slice none 0 0) := by rw [cell_of_row w1 L 2 _ _ _ hL1]; rfl
  have k2 : w1.frozen? ⟨L, 2, none⟩ = false := frozen_of_row w1 L 2 _ _ hL1
  have hL2 : ∀ v, Live (w1.setCell ⟨L, 2, none⟩ v) L (.slice (some ⟨b, off, none⟩) ds.length cap) le v 0 := fun v => by
    unfold Live
    rw [block_setCell hL1]
    rfl
  have k3 : ∀ v, (w1.setCell ⟨L, 2, none⟩ v).cell? ⟨L, 0, none⟩ = some (.slice (some ⟨b, off, none⟩) ds.length cap) := fun v => by rw [cell_of_row _ L 0 _ _ _ (hL2 v)]; rfl
  have k4 : ∀ v i, i < ds.length → (w1.setCell ⟨L, 2, none⟩ v).cell? ⟨b, off + i, none⟩ = some (.string (ds.getD i ByteArray.empty)) := fun v i hi => by
    exact (grown_setCell w1 L 2 v).cell (hgr.cell (hc i hi) (by simpa using hbL)) (by simpa using hbL)
  have k5 : ∀ v, (w1.setCell ⟨L, 2, none⟩ v).cell? ⟨g, 0, none⟩ = some (.string x) := fun v => (grown_setCell w1 L 2 v).cell hgc (by simpa using hgL)
  have k6 : ∀ v, w.grownBy (w1.setCell ⟨L, 2, none⟩ v) (some L) := fun v => hgr.trans (grown_setCell w1 L 2 v)
  have K2 := (show Hid _ from hL2)
  have K5 := (show Hid _ from k5)
  have K6 := (show Hid _ from k6)
  have HG := (show Hid _ from hgL)
  have HC := (show Hid _ from k4)
  clear hown hgrow hat hgr hL1 hgc hL2 k4 k5 k6 hL c2 hgL hg hc hlt hlt1 hi hz0 hz1 hz2
  go_wp2
  go_loop [22] (fun i => ∃ k : Nat, k ≤ ds.length ∧ i = .int .i64 k ∧ has (ds.take k) x = false) (fun i => ds.length - (intOf i).toNat)
  case atStart => exact ⟨0, Nat.zero_le _, rfl, rfl⟩
  case round =>
    obtain ⟨k, hk, rfl, hn⟩ := hrel
    have HN : Hid (has (ds.take k) x = false) := hn
    clear hn
    by_cases hlt : k < ds.length
    · have hck := HC.out (.slice (some ⟨g, 0, none⟩) 1 cp) k hlt
      go_wp2
      · go_ret
        exact ⟨by rw [has_hit ds x k hlt (by assumption)]; rfl, K6.out _, g, cp, K2.out _, HG.out, K5.out _⟩
      · go_round
        case rel => exact ⟨k + 1, by omega, by go_num, has_step ds x k hlt HN.out (by assumption)⟩
        case measure => simp [intOf]; omega
    · go_wp2
      go_ret
      exact ⟨by rw [has_all ds x k hlt HN.out]; rfl, K6.out _, g, cp, K2.out _, HG.out, K5.out _⟩
set_option maxHeartbeats 400000 in
theorem down_none (L cap : Nat) (a : Option Addr) (le : Bool) (x : ByteArray) (w : World)
    (hL : Live w L (.slice a 0 cap) le (.slice none 0 0) 0) :
    Calls Yba.prog 24 #[.pointer (some ⟨L, 0, none⟩), .string x] w (DownPost w L (.slice a 0 cap) le [] x) := by
  obtain ⟨i0, hi, hz0, hz1, hz2⟩ := info_parts Yba.info9
  have hlt := lt_of_block hL
  have c2 : w.cell? ⟨L, 2, none⟩ = some (.slice none 0 0) := by rw [cell_of_row w L 2 _ _ _ hL]; rfl
  go_enter Yba.func24, Yba.ntmps24
  go_wp2_with (at_builtin; refine wpList_append_lies _ rfl _ _ 24 rfl (w.heap.size) 9 i0 (.string ByteArray.empty) 1 16 Yba.underlying24 hi hz0 hz1 hz2 rfl (by decide) (.slice none 0 0) 0 [] rfl (World.ownsRow_nil _ _ _ _) ⟨w.heap.size, 0, none⟩ 1 1 [.string x] rfl rfl (cell_one_new _ _ _) (by simp [Value.oneCell']) (by decide) (by decide) (by decide) (by simp) (w.heap.size + 1) (by simp) ?_)
  intro g cp w1 hown hgrow hat hlt1
  have hg : g = w.heap.size + 1 := by first | exact hat | simpa [Value.ownBlock] using hat
  have hgr : w.grownBy w1 (some L) := (World.grownBy_alloc w _ _).trans (grown_weaken (by simpa [Value.ownBlock] using hgrow))
  have hL1 : Live w1 L (.slice a 0 cap) le (.slice none 0 0) 0 := by
    unfold Live at hL ⊢
    rw [hgrow.block L (by simp; omega) (by simp [Value.ownBlock]), Below.heap_alloc _ _ _ hlt]
    exact hL
  have hgc : w1.cell? ⟨g, 0, none⟩ = some (.string x) := by
    have := hown.cells (g := g) rfl 0 (.string x) (by simp)
    simpa [Addr.add] using this
  have hgL : g ≠ L := by omega
  have k1 : w1.cell? ⟨L, 2, none⟩ = some (.slice none 0 0) := by rw [cell_of_row w1 L 2 _ _ _ hL1]; rfl
  have k2 : w1.frozen? ⟨L, 2, none⟩ = false := frozen_of_row w1 L 2 _ _ hL1
  have hL2 : ∀ v, Live (w1.setCell ⟨L, 2, none⟩ v) L (.slice a 0 cap) le v 0 := fun v => by
    unfold Live
    rw [block_setCell hL1]
    rfl
  have k3 : ∀ v, (w1.setCell ⟨L, 2, none⟩ v).cell? ⟨L, 0, none⟩ = some (.slice a 0 cap) := fun v => by rw [cell_of_row _ L 0 _ _ _ (hL2 v)]; rfl
  have k5 : ∀ v, (w1.setCell ⟨L, 2, none⟩ v).cell? ⟨g, 0, none⟩ = some (.string x) := fun v => (grown_setCell w1 L 2 v).cell hgc (by simpa using hgL)
  have k6 : ∀ v, w.grownBy (w1.setCell ⟨L, 2, none⟩ v) (some L) := fun v => hgr.trans (grown_setCell w1 L 2 v)
  have K2 := (show Hid _ from hL2)
  have K5 := (show Hid _ from k5)
  have K6 := (show Hid _ from k6)
  have HG := (show Hid _ from hgL)
  clear hown hgrow hat hgr hL1 hgc hL2 k5 k6 hL c2 hgL hg hlt hlt1 hi hz0 hz1 hz2
  go_wp2
  refine wp_loop_rounds 1 ?_
  rw [rounds_succ]
  go_wp2
  go_ret
  exact ⟨rfl, K6.out _, g, cp, K2.out _, HG.out, K5.out _⟩

theorem down_any (L cap : Nat) (a : Option Addr) (ds : List ByteArray) (le : Bool) (x : ByteArray) (w : World) (hl : ds.length ≤ maxLen) (hbL : ∀ ad, a = some ad → ad.block ≠ L)
    (hL : Live w L (.slice a ds.length cap) le (.slice none 0 0) 0) (h : Lies w a ds) :
    Calls Yba.prog 24 #[.pointer (some ⟨L, 0, none⟩), .string x] w (DownPost w L (.slice a ds.length cap) le ds x) := by
  rcases h with rfl | ⟨b, off, rfl, hc⟩
  · exact down_none L cap a le x w hL
  · exact down_some L b off cap ds le x w hl (hbL _ rfl) hL hc

/-- What Leased leaves: the lease; one call noted. -/
def LeasedPost (w : World) (L : Nat) (dv : Value) (le : Bool) (calls : Value) (e : Ending) (w' : World) : Prop :=
  e = .returned (.bool le) ∧ w.grownBy w' (some L) ∧ Live w' L dv le calls 1

theorem leased_any (L : Nat) (dv : Value) (le : Bool) (calls : Value) (w : World) (hL : Live w L dv le calls 0) :
    Calls Yba.prog 25 #[.pointer (some ⟨L, 0, none⟩)] w (LeasedPost w L dv le calls) := by
  have k1 : w.cell? ⟨L, 3, none⟩ = some (.int .i64 0) := by rw [cell_of_row w L 3 _ _ _ hL]; rfl
  have k2 : w.frozen? ⟨L, 3, none⟩ = false := frozen_of_row w L 3 _ _ hL
  have hL2 : Live (w.setCell ⟨L, 3, none⟩ (.int .i64 1)) L dv le calls 1 := by
    unfold Live
    rw [block_setCell hL]
    rfl
  have k3 : (w.setCell ⟨L, 3, none⟩ (.int .i64 1)).cell? ⟨L, 1, none⟩ = some (.bool le) := by rw [cell_of_row _ L 1 _ _ _ hL2]; rfl
  have K2 := (show Hid _ from hL2)
  clear hL hL2
  go_enter Yba.func25, Yba.ntmps25
  go_wp2
  go_ret
  exact ⟨rfl, grown_setCell w L 3 _, K2.out⟩
end Go.Proofs.Ybulkebhu
