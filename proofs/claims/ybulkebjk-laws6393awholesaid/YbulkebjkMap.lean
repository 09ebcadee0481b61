import Derived.Test.YbulkebjkRows
import Derived.WalkKit
import Derived.WalkSpells
import Derived.WalkLawsBesides
import Derived.Deep.QuietTactic
import Derived.BigQuiet
import Derived.BigRegion
import Derived.Deep.RegionHeld3
import Derived.Deep.LoopGhost
import Derived.Deep.AppendLies
import Derived.Maps.AppendAt
import Derived.OneCell
import Derived.Handy
import Derived.LaidEqlPtr
import Derived.Deep.DeepCutAuto
import Derived.Deep.CutBlock
import Derived.MapKept
namespace Go.Proofs.Ybulkebjk
open Go.RowKit

theorem hid {p : Prop} (h : p) : Hid p := h

/-- The code from its n-th statement on. -/
def dropSeq : Nat → Code → Code
  | 0, c => c
  | n + 1, .seq _ b => dropSeq n b
  | _ + 1, c => c

/-- A block of cells none of which is frozen. -/
def Mine (w : World) (b : Nat) : Prop := ∃ cs t, w.heap[b]? = some (.cells cs t (0, 0))

theorem Mine.lt {w : World} {b : Nat} (h : Mine w b) : b < w.heap.size := by
  obtain ⟨cs, t, h⟩ := h
  exact lt_of_block h

theorem Mine.same {w w' : World} {b : Nat} (h : Mine w b) (e : w'.heap[b]? = w.heap[b]?) : Mine w' b := by
  obtain ⟨cs, t, h⟩ := h
  exact ⟨cs, t, e.trans h⟩

theorem tx_info : ∃ j, Yba.prog.info? 37 = some j ∧ j.size ≠ 0 := by
  have h : (Yba.prog.info? 37).map (fun j => decide (j.size ≠ 0)) = some true := by kernel_rfl
  cases hj : Yba.prog.info? 37 with
  | none => rw [hj] at h; simp at h
  | some j => rw [hj] at h; exact ⟨j, rfl, by simpa using h⟩

/-- The i-th transaction's pointer; g: the block of the row of pointers. -/
abbrev key (g i : Nat) : Value := .pointer (some ⟨g + 1 + i, 0, none⟩)
def val (g : Nat) (p : Nat → Nat) (i : Nat) : Value := if i = 0 then .pointer none else key g (p i)
def ent (g : Nat) (p : Nat → Nat) (i : Nat) : MapEntry := ⟨key g i, val g p i, i⟩
def ents (g : Nat) (p : Nat → Nat) (k : Nat) : Array MapEntry := ((List.range k).map (ent g p)).toArray

theorem eqp {g i j : Nat} {w : World} (hi : Mine w (g + 1 + i)) (hj : Mine w (g + 1 + j)) : (Op.equal 25 (key g i) (key g j)).run Yba.prog w = .ok (decide (i = j)) w := by
  obtain ⟨t, ht, hs⟩ := tx_info
  suffices H : ∀ d : Nat, (Op.equalIn (d + 1) 25 (key g i) (key g j)).run Yba.prog w = .ok (decide (i = j)) w from H 9999
  intro d
  by_cases h : i = j
  · subst h
    simp [key, Op.equalIn, run_underlying Yba.underlying25, sizeOf, typeInfo, ht, run_sameAddr_same]
  · obtain ⟨ca, ta, ha⟩ := hi
    obtain ⟨cb, tb, hb⟩ := hj
    have hne : (⟨g + 1 + i, 0, none⟩ : Addr) ≠ ⟨g + 1 + j, 0, none⟩ := fun e => h (by have := congrArg Addr.block e; simp at this; omega)
    simp [key, Op.equalIn, run_underlying Yba.underlying25, sizeOf, typeInfo, ht, hs, run_sameAddr_other w hne ha hb, h]

theorem find_run {g j m : Nat} {p : Nat → Nat} {w : World} (hM : ∀ i, i < m → Mine w (g + 1 + i)) (hj : j < m) : ∀ (k s : Nat), s + k ≤ m →
    (Instr.findAsking 25 (key g j) ((List.range' s k).map (ent g p)) s).run Yba.prog w = .ok (if s ≤ j ∧ j < s + k then some (j, val g p j) else none) w
  | 0, s, _ => by
    simp [Instr.findAsking]
  | k + 1, s, hk => by
    have e := eqp (hM j hj) (hM s (by omega))
    rw [List.range'_succ]
    simp only [List.map_cons, Instr.findAsking, ent]
    rw [Sem.run_bind, e]
    simp only [Result.andThen_ok]
    by_cases h : j = s
    · subst h
      simp
    · simp only [h, decide_false]
      rw [if_neg (by simp), find_run hM hj k (s + 1) (by omega)]
      by_cases h2 : s ≤ j ∧ j < s + (k + 1)
      · rw [if_pos h2, if_pos (by omega)]
      · rw [if_neg h2, if_neg (by omega)]

theorem findNow_ptr (a : Addr) (k : Nat) (g : Nat) (p : Nat → Nat) : Instr.findNow (.pointer 37) (.pointer (some a)) ((List.range k).map (ent g p)) 0 = if k = 0 then some none else none := by
  cases k with
  | zero => rfl
  | succ k => rw [List.range_succ_eq_map]; simp [Instr.findNow, Instr.sameNow]

theorem findKey_run {g j m k : Nat} {p : Nat → Nat} {w : World} (hM : ∀ i, i < m → Mine w (g + 1 + i)) (hj : j < m) (hk : k ≤ m) :
    (Instr.findKey 25 (key g j) ((List.range k).map (ent g p))).run Yba.prog w = .ok (if j < k then some (j, val g p j) else none) w := by
  have h0 := find_run (p := p) hM hj k 0 (by omega)
  rw [← List.range_eq_range'] at h0
  unfold Instr.findKey
  rw [Sem.run_bind, run_underlying Yba.underlying25]
  simp only [Result.andThen_ok, key]
  rw [findNow_ptr]
  by_cases hk0 : k = 0
  · subst hk0
    simp
  · rw [if_neg hk0]
    simp only [key] at h0
    rw [h0]
    simp

theorem check_run (e : Bool) (d : Nat) (a : Option Addr) (w : World) : (Instr.checkKey e (d + 1) 25 (.pointer a)).run Yba.prog w = .ok () w := by
  simp [Instr.checkKey, run_underlying Yba.underlying25]

theorem lookup_run {g j n gm : Nat} {p : Nat → Nat} {w : World} {c : Nat} (hM : ∀ i, i < n → Mine w (g + 1 + i)) (hj : j < n) (hm : w.heap[gm]? = some (.map (ents g p n) c)) (ok : Bool) :
    (Instr.lookup 39 (.map (some gm)) (key g j) ok).run Yba.prog w = .ok (if ok then .tuple #[val g p j, .bool true] else val g p j) w := by
  have h := findKey_run (p := p) hM hj (Nat.le_refl n)
  have hc := fun e => check_run e 9999 (some ⟨g + 1 + j, 0, none⟩) w
  unfold Instr.lookup
  rw [Sem.run_bind, run_underlying Yba.underlying39]
  simp only [Result.andThen_ok]
  rw [Sem.run_bind, MapKept.run_getObj_map hm]
  simp only [Result.andThen_ok, Sem.run_bind, Sem.run_pure, ents]
  rw [show (10000 : Nat) = 9999 + 1 from rfl, show key g j = .pointer (some ⟨g + 1 + j, 0, none⟩) from rfl, hc]
  simp only [Result.andThen_ok]
  rw [show (Value.pointer (some ⟨g + 1 + j, 0, none⟩)) = key g j from rfl, h, if_pos hj]
  simp

/-- The map with one entry more. -/
def grow (w : World) (gm g : Nat) (p : Nat → Nat) (k : Nat) : World := { w with heap := w.heap.setIfInBounds gm (.map (ents g p (k + 1)) (k + 1)) }

theorem ents_push (g : Nat) (p : Nat → Nat) (k : Nat) : (ents g p k).push (ent g p k) = ents g p (k + 1) := by
  simp [ents, List.range_succ]

theorem update_run {g k m gm : Nat} {p : Nat → Nat} {w : World} (hM : ∀ i, i < m → Mine w (g + 1 + i)) (hk : k < m) (hm : w.heap[gm]? = some (.map (ents g p k) k)) (v : Value) (hv : v = val g p k) :
    (Instr.mapUpdate 39 (.map (some gm)) (key g k) v).run Yba.prog w = .ok () (grow w gm g p k) := by
  have h := findKey_run (p := p) hM hk (Nat.le_of_lt hk)
  have hc := fun e => check_run e 9999 (some ⟨g + 1 + k, 0, none⟩) w
  unfold Instr.mapUpdate
  rw [Sem.run_bind, run_underlying Yba.underlying39]
  simp only [Result.andThen_ok]
  rw [Sem.run_bind, MapKept.run_getObj_map hm]
  simp only [Result.andThen_ok, Sem.run_bind, ents]
  rw [show (10000 : Nat) = 9999 + 1 from rfl, show key g k = .pointer (some ⟨g + 1 + k, 0, none⟩) from rfl, hc]
  simp only [Result.andThen_ok]
  rw [show (Value.pointer (some ⟨g + 1 + k, 0, none⟩)) = key g k from rfl, h, if_neg (Nat.lt_irrefl _)]
  simp only [Result.andThen_ok]
  rw [MapKept.run_setObj_map _ hm]
  subst hv
  have := ents_push g p k
  simp only [ents, ent] at this
  simp [grow, ents, this]

/-- The chain from i up to the root, the root left out (f: fuel). -/
def up (p : Nat → Nat) : Nat → Nat → List Nat
  | 0, _ => []
  | f + 1, i => if i = 0 then [] else i :: up p f (p i)

theorem up_fuel {p : Nat → Nat} {n : Nat} (hp : ∀ i, 0 < i → i ≤ n → p i < i) : ∀ (f i : Nat), i ≤ f → i ≤ n → up p f i = up p i i
  | 0, i, h, _ => by obtain rfl : i = 0 := by omega
                     rfl
  | f + 1, i, h, hn => by
    cases i with
    | zero => simp [up]
    | succ i =>
      have h1 := hp (i + 1) (by omega) hn
      simp only [up, if_neg (Nat.succ_ne_zero i)]
      rw [up_fuel hp f (p (i + 1)) (by omega) (by omega), up_fuel hp i (p (i + 1)) (by omega) (by omega)]

theorem up_step {p : Nat → Nat} {n i : Nat} (hp : ∀ i, 0 < i → i ≤ n → p i < i) (h0 : 0 < i) (hn : i ≤ n) : up p i i = i :: up p (p i) (p i) := by
  obtain ⟨k, rfl⟩ : ∃ k, i = k + 1 := ⟨i - 1, by omega⟩
  have h1 := hp (k + 1) h0 hn
  simp only [up, if_neg (Nat.succ_ne_zero k)]
  rw [up_fuel hp k (p (k + 1)) (by omega) (by omega)]

theorem up_len {p : Nat → Nat} {n : Nat} (hp : ∀ i, 0 < i → i ≤ n → p i < i) : ∀ (f i : Nat), i ≤ f → i ≤ n → (up p i i).length ≤ i
  | 0, i, h, _ => by obtain rfl : i = 0 := by omega
                     simp [up]
  | f + 1, i, h, hn => by
    rcases Nat.eq_zero_or_pos i with rfl | h0
    · simp [up]
    · have h1 := hp i h0 hn
      rw [up_step hp h0 hn]
      have := up_len hp f (p i) (by omega) (by omega)
      simp; omega

theorem up_mem {p : Nat → Nat} {n : Nat} (hp : ∀ i, 0 < i → i ≤ n → p i < i) : ∀ (f i : Nat), i ≤ f → i ≤ n → ∀ x ∈ up p i i, x ≤ i
  | 0, i, h, _ => by obtain rfl : i = 0 := by omega
                     simp [up]
  | f + 1, i, h, hn => by
    rcases Nat.eq_zero_or_pos i with rfl | h0
    · simp [up]
    · have h1 := hp i h0 hn
      rw [up_step hp h0 hn]
      intro x hx
      rcases List.mem_cons.1 hx with rfl | hx
      · exact Nat.le_refl _
      · have := up_mem hp f (p i) (by omega) (by omega) x hx
        omega
end Go.Proofs.Ybulkebjk
