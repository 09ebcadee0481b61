import Derived.Test.YbulkebiwPtrs
import Derived.Laws.BitsAllLaws
namespace Go.Proofs.Ybulkebiw
open Go.RowKit
set_option linter.unusedVariables false

theorem and_high (x : Int) (h0 : 0 ≤ x) (h1 : x < 1000000000) : bits .and .u64 x 9223372036854775808 = 0 := by
  obtain ⟨n, rfl⟩ : ∃ n : Nat, x = n := ⟨x.toNat, by omega⟩
  have hn : n < 2 ^ 63 := by omega
  have h : n &&& 2 ^ 63 = 0 := by
    apply Nat.eq_of_testBit_eq
    intro i
    rw [Nat.testBit_and, Nat.testBit_two_pow, Nat.zero_testBit]
    by_cases hi : 63 = i
    · subst hi
      rw [Nat.testBit_lt_two_pow hn]; rfl
    · simp [hi]
  have e := u64_and_nat n 9223372036854775808 (by omega) (by decide)
  rw [show ((9223372036854775808 : Nat) : Int) = 9223372036854775808 from rfl] at e
  rw [e, show (9223372036854775808 : Nat) = 2 ^ 63 by decide, h]
  rfl

theorem or_zero (x : Int) (h0 : 0 ≤ x) (h1 : x < 1000000000) : bits .or .u64 (bits .andNot .u64 0 1073741823) x = x := by
  obtain ⟨n, rfl⟩ : ∃ n : Nat, x = n := ⟨x.toNat, by omega⟩
  have e0 : bits .andNot .u64 0 1073741823 = ((0 : Nat) : Int) := by decide
  rw [e0, u64_or_nat 0 n (by decide) (by omega)]
  simp

/-- What time.Time{}.Add(d) holds: nanoseconds and seconds. -/
def tW (d : Int) : Int := if d.tmod 1000000000 < 0 then d.tmod 1000000000 + 1000000000 else d.tmod 1000000000
def tX (d : Int) : Int := if d.tmod 1000000000 < 0 then d.tdiv 1000000000 - 1 else d.tdiv 1000000000

set_option maxHeartbeats 4000000 in
theorem nsec_zero (g : Nat) (w : World) (c0 : w.cell? ⟨g, 0, none⟩ = some (.int .u64 0)) :
    Calls Yba.prog 12 #[.pointer (some ⟨g, 0, none⟩)] w fun e w' => e = .returned (.int .i32 0) ∧ w' = w := by
  have hb : bits .and .u64 0 1073741823 = 0 := by decide
  go_enter Yba.func12, Yba.ntmps12
  go_wp2
  go_ret
  exact ⟨rfl, rfl⟩

set_option maxHeartbeats 4000000 in
theorem addSec_any (g : Nat) (x d : Int) (w : World) (h0 : 0 ≤ x) (h1 : x < 1000000000) (hd0 : -9223372036854775808 ≤ d) (hd1 : d ≤ 9223372036854775807) (c0 : w.cell? ⟨g, 0, none⟩ = some (.int .u64 x)) (c1 : w.cell? ⟨g, 1, none⟩ = some (.int .i64 0)) (hf : w.frozen? ⟨g, 1, none⟩ = false) :
    Calls Yba.prog 13 #[.pointer (some ⟨g, 0, none⟩), .int .i64 d] w fun e w' => e = .returned (.tuple #[]) ∧ w' = w.setCell ⟨g, 1, none⟩ (.int .i64 d) := by
  have hb := and_high x h0 h1
  have hw : IntKind.i64.wrap d = d := by rw [IntKind.wrap_i64]; omega
  clear h0 h1
  go_enter Yba.func13, Yba.ntmps13
  go_wp2
  go_returns
  exact ⟨rfl, rfl⟩

set_option maxHeartbeats 4000000 in
theorem add_any (d : Int) (w : World) (hd0 : -9223372036854775808 ≤ d) (hd1 : d ≤ 9223372036854775807) :
    Calls Yba.prog 6 #[.agg #[.int .u64 0, .int .i64 0, .pointer none], .int .i64 d] w fun e w' => e = .returned (.agg #[.int .u64 (tW d), .int .i64 (tX d), .pointer none]) ∧ Below w.heap.size w w' := by
  go_enter Yba.func6, Yba.ntmps6
  go_wp2_with fail
  refine (nsec_zero w.heap.size _ (by simp)).mono ?_
  rintro e w1 ⟨rfl, rfl⟩
  go_upto_region 3 with fail
  have r1 : -1000000000 < d.tmod 1000000000 := by have := Int.tmod_lt_of_pos (-d) (show (0 : Int) < 1000000000 by decide); rw [Int.neg_tmod] at this; omega
  have r2 : d.tmod 1000000000 < 1000000000 := Int.tmod_lt_of_pos d (by decide)
  have q1 : -9223372038 < d.tdiv 1000000000 ∧ d.tdiv 1000000000 < 9223372038 := by have := Int.mul_tdiv_add_tmod d 1000000000; omega
  obtain ⟨q1, q2⟩ := q1
  have eW : tW d = if d.tmod 1000000000 < 0 then d.tmod 1000000000 + 1000000000 else d.tmod 1000000000 := rfl
  have eX : tX d = if d.tmod 1000000000 < 0 then d.tdiv 1000000000 - 1 else d.tdiv 1000000000 := rfl
  generalize d.tmod 1000000000 = r at *
  generalize d.tdiv 1000000000 = q at *
  have w1 : wrap32 r = r := by unfold wrap32; omega
  simp only [w1]
  by_cases hneg : r < 0
  · rw [if_pos hneg] at eW eX
    have g1 : ¬ (1000000000 ≤ r) := by omega
    have w2 : wrap32 (r + 1000000000) = r + 1000000000 := by unfold wrap32; omega
    have w3 : IntKind.i32.wrap (r + 1000000000) = r + 1000000000 := by rw [IntKind.wrap_i32]; omega
    have w4 : wrap64 (q - 1) = q - 1 := by unfold wrap64; omega
    have w5 : IntKind.u64.wrap (r + 1000000000) = r + 1000000000 := by rw [IntKind.wrap_u64]; omega
    have o1 := or_zero (r + 1000000000) (by omega) (by omega)
    have a1 := and_high (r + 1000000000) (by omega) (by omega)
    go_wp2_with fail
    refine (addSec_any w.heap.size (r + 1000000000) (q - 1) _ (by omega) (by omega) (by omega) (by omega) (by simp) (by simp) (by simp)).mono ?_
    rintro e w1 ⟨rfl, rfl⟩
    go_wp2
    go_returns
    rw [eW, eX]
    exact ⟨rfl, (by repeat' (first | exact Below.refl _ _ | assumption | refine Below.setCell ?_ ?_ _ | refine Below.drew ?_ | refine Below.alloc ?_ ?_ _ | go_size))⟩
  · rw [if_neg hneg] at eW eX
    have g1 : ¬ (1000000000 ≤ r) := by omega
    have w5 : IntKind.u64.wrap r = r := by rw [IntKind.wrap_u64]; omega
    have o1 := or_zero r (by omega) (by omega)
    have a1 := and_high r (by omega) (by omega)
    go_wp2_with fail
    refine (addSec_any w.heap.size r q _ (by omega) (by omega) (by omega) (by omega) (by simp) (by simp) (by simp)).mono ?_
    rintro e w1 ⟨rfl, rfl⟩
    go_wp2
    go_returns
    rw [eW, eX]
    exact ⟨rfl, (by repeat' (first | exact Below.refl _ _ | assumption | refine Below.setCell ?_ ?_ _ | refine Below.drew ?_ | refine Below.alloc ?_ ?_ _ | go_size))⟩

/-- The entry's type by a number. -/
def tyOf (k : Int) : ByteArray :=
  if k % 8 = 0 then ⟨#[109, 111, 100, 101, 108, 95, 99, 104, 97, 110, 103, 101]⟩ else if k % 8 = 1 then ⟨#[116, 104, 105, 110, 107, 105, 110, 103, 95, 108, 101, 118, 101, 108]⟩ else if k % 8 = 2 then ⟨#[108, 97, 98, 101, 108]⟩ else
  if k % 8 = 3 then ⟨#[115, 101, 115, 115, 105, 111, 110, 95, 105, 110, 102, 111]⟩ else if k % 8 = 4 then ⟨#[99, 111, 109, 112, 97, 99, 116, 105, 111, 110]⟩ else if k % 8 = 5 then ⟨#[98, 114, 97, 110, 99, 104, 95, 115, 117, 109, 109, 97, 114, 121]⟩ else
  if k % 8 = 6 then ⟨#[99, 117, 115, 116, 111, 109]⟩ else ⟨#[109, 101, 115, 115, 97, 103, 101]⟩

set_option maxHeartbeats 4000000 in
theorem ty_any (k : Int) (w : World) (h0 : 0 ≤ k) : Calls Yba.prog 7 #[.int .u8 k] w fun e w' => e = .returned (.string (tyOf k)) ∧ w' = w := by
  go_enter Yba.func7, Yba.ntmps7
  go_wp2
  all_goals
    go_ret
    refine ⟨?_, rfl⟩
    simp_all [tyOf]
end Go.Proofs.Ybulkebiw
