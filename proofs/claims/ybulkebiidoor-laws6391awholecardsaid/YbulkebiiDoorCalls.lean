import Derived.Test.YbulkebiiDoorRows
import Derived.WalkKit
import Derived.WalkSpells
import Derived.WalkLawsBesides
import Derived.Deep.QuietTactic
import Derived.BigQuiet
import Derived.BigRegion
import Derived.Deep.RegionHeld3
import Derived.Deep.LoopGhost
import Derived.Laws.CopyOwn
import Derived.OneCell
import Derived.Handy
import Derived.LaidEqlPtr
import Derived.Lib.EndianBits
import Derived.Lib.Endian
import Derived.Deep.MidRow
namespace Go.Proofs.YbulkebiiDoor
open Go.RowKit

theorem hid {p : Prop} (h : p) : Hid p := h

theorem bcell {W w1 : World} (hb : Below W.heap.size W w1) : (∀ b o, b < W.heap.size → w1.cell? ⟨b, o, none⟩ = W.cell? ⟨b, o, none⟩) ∧ (∀ b o, b < W.heap.size → w1.frozen? ⟨b, o, none⟩ = W.frozen? ⟨b, o, none⟩) :=
  ⟨fun b o h => hb.cell (p := ⟨b, o, none⟩) h, fun b o h => hb.frozen (p := ⟨b, o, none⟩) h⟩

/-- A block of cells none of which is frozen. -/
def Mine (w : World) (b : Nat) : Prop := ∃ cs t, w.heap[b]? = some (.cells cs t (0, 0))

theorem Mine.lt {w : World} {b : Nat} (h : Mine w b) : b < w.heap.size := by
  obtain ⟨cs, t, h⟩ := h
  exact lt_of_block h

theorem Mine.same {w w' : World} {b : Nat} (h : Mine w b) (e : w'.heap[b]? = w.heap[b]?) : Mine w' b := by
  obtain ⟨cs, t, h⟩ := h
  exact ⟨cs, t, e.trans h⟩

/-- What the three handles of net/netip hold: two pointers that are not one, and nil. -/
structure Zs (w : World) (p6 p4 : Addr) : Prop where
  k1 : w.cell? ⟨1, 0, none⟩ = some (.pointer (some p6))
  k2 : w.cell? ⟨2, 0, none⟩ = some (.pointer none)
  k3 : w.cell? ⟨3, 0, none⟩ = some (.pointer (some p4))
  ne : p6 ≠ p4
  m6 : Mine w p6.block
  m4 : Mine w p4.block

theorem Zs.later {w W : World} {p6 p4 : Addr} (h : Zs w p6 p4) (hb : Below w.heap.size w W) : Zs W p6 p4 :=
  ⟨cell_later hb h.k1, cell_later hb h.k2, cell_later hb h.k3, h.ne, h.m6.same (hb.block _ h.m6.lt), h.m4.same (hb.block _ h.m4.lt)⟩

theorem Zs.lt {w : World} {p6 p4 : Addr} (h : Zs w p6 p4) : 1 < w.heap.size ∧ 2 < w.heap.size ∧ 3 < w.heap.size :=
  ⟨World.block_lt_of_cell? _ _ h.k1, World.block_lt_of_cell? _ _ h.k2, World.block_lt_of_cell? _ _ h.k3⟩

theorem Ybad.info28 : (Ybad.prog.underlying 30).map (fun t => match t with | .pointer e => ((Ybad.prog.info? e).map (·.size)).getD 0 | _ => 0) = some 2 := by kernel_rfl

theorem pointee : ∃ e j, Ybad.prog.underlying 30 = some (.pointer e) ∧ Ybad.prog.info? e = some j ∧ j.size ≠ 0 := by
  have h := Ybad.info28
  rw [Ybad.underlying30] at h
  simp only [Option.map_some] at h
  cases hj : Ybad.prog.info? 137 with
  | none => rw [hj] at h; simp at h
  | some j =>
    rw [hj] at h
    simp at h
    exact ⟨137, j, Ybad.underlying30, hj, by omega⟩

theorem eqIn_nil (a : Addr) (d : Nat) (w : World) : (Op.equalIn (d + 1) 30 (.pointer (some a)) (.pointer none)).run Ybad.prog w = .ok false w := by
  obtain ⟨e, j, h1, _, _⟩ := pointee
  simp [Op.equalIn, run_underlying h1]

theorem eqIn_same (a : Addr) (d : Nat) (w : World) : (Op.equalIn (d + 1) 30 (.pointer (some a)) (.pointer (some a))).run Ybad.prog w = .ok true w := by
  obtain ⟨e, j, h1, h2, _⟩ := pointee
  simp [Op.equalIn, run_underlying h1, sizeOf, typeInfo, h2, run_sameAddr_same]

theorem eqIn_other {a b : Addr} (d : Nat) {w : World} (hne : a ≠ b) (ha : Mine w a.block) (hb : Mine w b.block) : (Op.equalIn (d + 1) 30 (.pointer (some a)) (.pointer (some b))).run Ybad.prog w = .ok false w := by
  obtain ⟨e, j, h1, h2, h3⟩ := pointee
  obtain ⟨ca, ta, ha⟩ := ha
  obtain ⟨cb, tb, hb⟩ := hb
  simp [Op.equalIn, run_underlying h1, sizeOf, typeInfo, h2, h3, run_sameAddr_other w hne ha hb]

set_option maxHeartbeats 400000 in
theorem isZero_any (hi lo : Int) (p6 p4 : Addr) (w : World) (hz : Zs w p6 p4) :
    Calls Ybad.prog 22 #[.agg #[.int .u64 hi, .int .u64 lo, .pointer (some p6)]] w fun e w' => e = .returned (.bool false) ∧ w' = w.alloc (.cells #[.int .u64 hi, .int .u64 lo, .pointer (some p6)] 34) := by
  have q := eqIn_nil p6
  obtain ⟨l1, l2, l3⟩ := hz.lt
  have k2 := hz.k2
  clear hz
  go_enter Ybad.func22, Ybad.ntmps22
  go_wp2
  go_ret
  exact ⟨rfl, rfl⟩

set_option maxHeartbeats 400000 in
theorem bitLen_any (hi lo : Int) (p6 p4 : Addr) (w : World) (hz : Zs w p6 p4) :
    Calls Ybad.prog 23 #[.agg #[.int .u64 hi, .int .u64 lo, .pointer (some p6)]] w fun e w' => e = .returned (.int .i64 128) ∧ w' = w.alloc (.cells #[.int .u64 hi, .int .u64 lo, .pointer (some p6)] 34) := by
  have q := eqIn_nil p6
  have q4 : ∀ d (o : Obj), (Op.equalIn (d + 1) 30 (.pointer (some p6)) (.pointer (some p4))).run Ybad.prog (w.alloc o) = .ok false (w.alloc o) := fun d o => by
    have h := hz.later ((Below.refl _ _).alloc (Nat.le_refl _) o)
    exact eqIn_other d h.ne h.m6 h.m4
  obtain ⟨l1, l2, l3⟩ := hz.lt
  have k2 := hz.k2
  have k3 := hz.k3
  clear hz
  go_enter Ybad.func23, Ybad.ntmps23
  go_wp2
  go_ret
  exact ⟨rfl, rfl⟩

set_option maxHeartbeats 400000 in
theorem is6_any (hi lo : Int) (p6 p4 : Addr) (w : World) (hz : Zs w p6 p4) :
    Calls Ybad.prog 29 #[.agg #[.int .u64 hi, .int .u64 lo, .pointer (some p6)]] w fun e w' => e = .returned (.bool true) ∧ w' = w.alloc (.cells #[.int .u64 hi, .int .u64 lo, .pointer (some p6)] 34) := by
  have q := eqIn_nil p6
  have q4 : ∀ d (o : Obj), (Op.equalIn (d + 1) 30 (.pointer (some p6)) (.pointer (some p4))).run Ybad.prog (w.alloc o) = .ok false (w.alloc o) := fun d o => by
    have h := hz.later ((Below.refl _ _).alloc (Nat.le_refl _) o)
    exact eqIn_other d h.ne h.m6 h.m4
  obtain ⟨l1, l2, l3⟩ := hz.lt
  have k2 := hz.k2
  have k3 := hz.k3
  clear hz
  go_enter Ybad.func29, Ybad.ntmps29
  go_wp2
  go_ret
  exact ⟨rfl, rfl⟩

/-- The number that eight bytes spell, the greatest first. -/
def be8 (b0 b1 b2 b3 b4 b5 b6 b7 : Int) : Int := b7 + b6 * 256 + b5 * 65536 + b4 * 16777216 + b3 * 4294967296 + b2 * 1099511627776 + b1 * 281474976710656 + b0 * 72057594037927936

def byte (x : Int) : Prop := 0 ≤ x ∧ x < 256

set_option maxHeartbeats 8000000 in
set_option maxRecDepth 100000 in
theorem beUint64_any (g o n c : Nat) (b0 b1 b2 b3 b4 b5 b6 b7 : Int) (w : World) (hn : 8 ≤ n) (h0 : byte b0) (h1 : byte b1) (h2 : byte b2) (h3 : byte b3) (h4 : byte b4) (h5 : byte b5) (h6 : byte b6) (h7 : byte b7)
    (c0 : w.cell? ⟨g, o, none⟩ = some (.int .u8 b0)) (c1 : w.cell? ⟨g, o + 1, none⟩ = some (.int .u8 b1)) (c2 : w.cell? ⟨g, o + 2, none⟩ = some (.int .u8 b2)) (c3 : w.cell? ⟨g, o + 3, none⟩ = some (.int .u8 b3))
    (c4 : w.cell? ⟨g, o + 4, none⟩ = some (.int .u8 b4)) (c5 : w.cell? ⟨g, o + 5, none⟩ = some (.int .u8 b5)) (c6 : w.cell? ⟨g, o + 6, none⟩ = some (.int .u8 b6)) (c7 : w.cell? ⟨g, o + 7, none⟩ = some (.int .u8 b7)) :
    Calls Ybad.prog 25 #[.slice (some ⟨g, o, none⟩) n c] w fun e w' => e = .returned (.int .u64 (be8 b0 b1 b2 b3 b4 b5 b6 b7)) ∧ ∃ k, w' = w.drewN k := by
  unfold byte at h0 h1 h2 h3 h4 h5 h6 h7
  have q0 : 0 < n := by omega
  have q1 : (1 : Int) < (n : Int) := by omega
  have q2 : (2 : Int) < (n : Int) := by omega
  have q3 : (3 : Int) < (n : Int) := by omega
  have q4 : (4 : Int) < (n : Int) := by omega
  have q5 : (5 : Int) < (n : Int) := by omega
  have q6 : (6 : Int) < (n : Int) := by omega
  have q7 : (7 : Int) < (n : Int) := by omega
  go_enter Ybad.func25, Ybad.ntmps25
  go_wp2
  go_quiet (fail)
  go_wp2
  go_ret
  refine ⟨?_, _, rfl⟩
  simp (disch := omega) only [u64_or8, u64_or16, u64_or24, u64_or32, u64_or40, u64_or48, u64_or56]
  rfl

set_option maxHeartbeats 400000 in
theorem bits_any (hi lo bp : Int) (p : Option Addr) (w : World) (hbp : byte bp) :
    Calls Ybad.prog 8 #[.agg #[.int .u64 hi, .int .u64 lo, .pointer p, .int .u8 bp]] w fun e w' => e = .returned (.int .i64 (bp - 1)) ∧ w' = w.alloc (.cells #[.int .u64 hi, .int .u64 lo, .pointer p, .int .u8 bp] 36) := by
  unfold byte at hbp
  go_enter Ybad.func8, Ybad.ntmps8
  go_wp2
  go_ret
  exact ⟨rfl, rfl⟩

set_option maxHeartbeats 400000 in
theorem isValid_any (hi lo bp : Int) (p : Option Addr) (w : World) :
    Calls Ybad.prog 7 #[.agg #[.int .u64 hi, .int .u64 lo, .pointer p, .int .u8 bp]] w fun e w' => e = .returned (.bool (decide (0 < bp))) ∧ w' = w.alloc (.cells #[.int .u64 hi, .int .u64 lo, .pointer p, .int .u8 bp] 36) := by
  go_enter Ybad.func7, Ybad.ntmps7
  go_wp2
  go_ret
  exact ⟨rfl, rfl⟩

set_option maxHeartbeats 400000 in
theorem addr_any (hi lo bp : Int) (p : Addr) (w : World) :
    Calls Ybad.prog 9 #[.agg #[.int .u64 hi, .int .u64 lo, .pointer (some p), .int .u8 bp]] w fun e w' => e = .returned (.agg #[.int .u64 hi, .int .u64 lo, .pointer (some p)]) ∧ Below w.heap.size w w' := by
  go_enter Ybad.func9, Ybad.ntmps9
  go_wp2
  go_returns
  exact ⟨rfl, by go_grown⟩

set_option maxHeartbeats 400000 in
theorem and_any (a b c d : Int) (w : World) :
    Calls Ybad.prog 32 #[.agg #[.int .u64 a, .int .u64 b], .agg #[.int .u64 c, .int .u64 d]] w fun e w' => e = .returned (.agg #[.int .u64 (bits .and .u64 a c), .int .u64 (bits .and .u64 b d)]) ∧ w' = ((w.alloc (.cells #[.int .u64 a, .int .u64 b] 29)).alloc (.cells #[.int .u64 c, .int .u64 d] 29)).alloc (.cells #[.int .u64 (bits .and .u64 a c), .int .u64 (bits .and .u64 b d)] 29) := by
  go_enter Ybad.func32, Ybad.ntmps32
  go_wp2
  go_returns
  exact ⟨rfl, rfl⟩

set_option maxHeartbeats 400000 in
theorem withoutZone_any (hi lo : Int) (p6 p4 : Addr) (w : World) (hz : Zs w p6 p4) :
    Calls Ybad.prog 24 #[.agg #[.int .u64 hi, .int .u64 lo, .pointer (some p6)]] w fun e w' => e = .returned (.agg #[.int .u64 hi, .int .u64 lo, .pointer (some p6)]) ∧ w' = ((w.alloc (.cells #[.int .u64 hi, .int .u64 lo, .pointer (some p6)] 34)).alloc (.cells #[.int .u64 hi, .int .u64 lo, .pointer (some p6)] 34)).alloc (.cells #[.int .u64 hi, .int .u64 lo, .pointer (some p6)] 34) := by
  have HZ := hid hz
  clear hz
  go_enter Ybad.func24, Ybad.ntmps24
  go_wp2_with fail
  refine (is6_any hi lo p6 p4 _ (HZ.out.later (by go_grown))).mono ?_
  rintro e w1 ⟨rfl, rfl⟩
  obtain ⟨l1, l2, l3⟩ := HZ.out.lt
  have l0 : 0 < w.heap.size := by omega
  have k1 := HZ.out.k1
  go_wp2
  go_returns
  exact ⟨rfl, rfl⟩

/-- The prefix's length and one, nothing where the length is too great. -/
def plusOne (b : Int) : Int := if b ≤ 128 then b + 1 else 0

set_option maxHeartbeats 1000000 in
theorem prefixFrom_any (hi lo b : Int) (p6 p4 : Addr) (w : World) (hz : Zs w p6 p4) (hb0 : 0 ≤ b) (hb1 : b < 256) :
    Calls Ybad.prog 16 #[.agg #[.int .u64 hi, .int .u64 lo, .pointer (some p6)], .int .i64 b] w fun e w' => e = .returned (.agg #[.int .u64 hi, .int .u64 lo, .pointer (some p6), .int .u8 (plusOne b)]) ∧
      w' = ((((((w.alloc (.cells #[.int .u64 hi, .int .u64 lo, .pointer (some p6)] 34)).alloc (.cells #[.int .u64 hi, .int .u64 lo, .pointer (some p6), .int .u8 (plusOne b)] 36)).alloc (.cells #[.int .u64 hi, .int .u64 lo, .pointer (some p6)] 34)).alloc (.cells #[.int .u64 hi, .int .u64 lo, .pointer (some p6)] 34)).alloc (.cells #[.int .u64 hi, .int .u64 lo, .pointer (some p6)] 34)).alloc (.cells #[.int .u64 hi, .int .u64 lo, .pointer (some p6)] 34)).alloc (.cells #[.int .u64 hi, .int .u64 lo, .pointer (some p6)] 34) := by
  have HZ := hid hz
  obtain ⟨l1, l2, l3⟩ := hz.lt
  have l0 : 0 < w.heap.size := by omega
  clear hz
  by_cases hb : b ≤ 128
  · have e : plusOne b = b + 1 := by simp [plusOne, hb]
    rw [e]
    clear e
    go_enter Ybad.func16, Ybad.ntmps16
    go_wp2_with (first
      | (go_at_call 22; refine (isZero_any hi lo p6 p4 _ (HZ.out.later (by go_grown))).mono ?_; rintro e w1 ⟨rfl, rfl⟩)
      | (go_at_call 23; refine (bitLen_any hi lo p6 p4 _ (HZ.out.later (by go_grown))).mono ?_; rintro e w1 ⟨rfl, rfl⟩)
      | (go_at_call 24; refine (withoutZone_any hi lo p6 p4 _ (HZ.out.later (by go_grown))).mono ?_; rintro e w1 ⟨rfl, rfl⟩))
    go_returns
    exact ⟨rfl, rfl⟩
  · have e : plusOne b = 0 := by simp [plusOne, hb]
    rw [e]
    clear e
    go_enter Ybad.func16, Ybad.ntmps16
    go_wp2_with (first
      | (go_at_call 22; refine (isZero_any hi lo p6 p4 _ (HZ.out.later (by go_grown))).mono ?_; rintro e w1 ⟨rfl, rfl⟩)
      | (go_at_call 23; refine (bitLen_any hi lo p6 p4 _ (HZ.out.later (by go_grown))).mono ?_; rintro e w1 ⟨rfl, rfl⟩)
      | (go_at_call 24; refine (withoutZone_any hi lo p6 p4 _ (HZ.out.later (by go_grown))).mono ?_; rintro e w1 ⟨rfl, rfl⟩))
    go_returns
    exact ⟨rfl, rfl⟩
end Go.Proofs.YbulkebiiDoor
