import Derived.Test.YbulkebiiDoorCalls
import Derived.Test.YbulkebiiDoorPlain
namespace Go.Proofs.YbulkebiiDoor
open Go.RowKit

def maskHi (n : Nat) : Int := bits .xor .u64 IntKind.u64.max (18446744073709551615 / 2 ^ min n 64)
def maskLo (n : Nat) : Int := IntKind.u64.wrap (18446744073709551615 * 2 ^ min (128 - n) 64)

theorem div_pow (k : Nat) (hk : k ≤ 64) : (18446744073709551615 : Nat) / 2 ^ k = 2 ^ (64 - k) - 1 := by
  have h : (18446744073709551615 : Nat) = 2 ^ (64 - k) * 2 ^ k - 1 := by rw [← Nat.pow_add, show 64 - k + k = 64 by omega]
  have hp : 0 < 2 ^ k := Nat.two_pow_pos k
  have hq : 0 < 2 ^ (64 - k) := Nat.two_pow_pos _
  rw [h, Nat.div_eq_iff hp]
  constructor
  · rw [Nat.sub_mul, Nat.one_mul]
    omega
  · rw [Nat.sub_mul, Nat.one_mul]
    have : 2 ^ k ≤ 2 ^ (64 - k) * 2 ^ k := Nat.le_mul_of_pos_left _ hq
    omega

theorem maskHi_eq (n : Nat) : maskHi n = ((2 ^ 64 - 2 ^ (64 - min n 64) : Nat) : Int) := by
  unfold maskHi
  have e0 : IntKind.u64.max = ((18446744073709551615 : Nat) : Int) := by simp [IntKind.max, IntKind.signed, IntKind.bits]
  have e1 : (18446744073709551615 : Int) / 2 ^ min n 64 = ((18446744073709551615 / 2 ^ min n 64 : Nat) : Int) := by rw [Int.natCast_ediv, Int.natCast_pow]; rfl
  have e2 := div_pow (min n 64) (by omega)
  have p1 : 2 ^ (64 - min n 64) ≤ 2 ^ 64 := Nat.pow_le_pow_right (by omega) (by omega)
  have p2 : 0 < 2 ^ (64 - min n 64) := Nat.two_pow_pos _
  rw [e0, e1, u64_xor_nat _ _ (by omega) (by rw [e2]; omega), e2]
  have hb : 2 ^ (64 - min n 64) - 1 < 2 ^ 64 := by omega
  have : 18446744073709551615 ^^^ (2 ^ (64 - min n 64) - 1) = 2 ^ 64 - (2 ^ (64 - min n 64) - 1 + 1) := by
    apply Nat.eq_of_testBit_eq
    intro i
    rw [Nat.testBit_two_pow_sub_succ hb, Nat.testBit_xor, show (18446744073709551615 : Nat) = 2 ^ 64 - 1 from rfl, Nat.testBit_two_pow_sub_one]
    by_cases hi : i < 64
    · simp only [hi, decide_true, Bool.true_and, Bool.true_xor]
    · rw [Nat.testBit_lt_two_pow (Nat.lt_of_lt_of_le hb (Nat.pow_le_pow_right (by omega) (by omega)))]
      simp [hi]
  rw [this, show 2 ^ (64 - min n 64) - 1 + 1 = 2 ^ (64 - min n 64) by omega]

theorem maskLo_eq (n : Nat) (_hn : n ≤ 128) : maskLo n = ((2 ^ 64 - 2 ^ min (128 - n) 64 : Nat) : Int) := by
  unfold maskLo
  have p1 : 2 ^ min (128 - n) 64 ≤ 2 ^ 64 := Nat.pow_le_pow_right (by omega) (by omega)
  have p2 : 0 < 2 ^ min (128 - n) 64 := Nat.two_pow_pos _
  have e : (18446744073709551615 : Int) * 2 ^ min (128 - n) 64 = ((18446744073709551615 * 2 ^ min (128 - n) 64 : Nat) : Int) := by rw [Int.natCast_mul, Int.natCast_pow]; rfl
  rw [e, IntKind.wrap_u64]
  generalize 2 ^ min (128 - n) 64 = t at *
  omega

theorem masked_iff (H L n : Nat) (hH : H < 2 ^ 64) (hL : L < 2 ^ 64) (hn : n ≤ 128) : (bits .and .u64 (H : Int) (maskHi n) = H ∧ bits .and .u64 (L : Int) (maskLo n) = L) ↔ (H * 2 ^ 64 + L) % 2 ^ (128 - n) = 0 := by
  rw [maskHi_eq, maskLo_eq n hn, ← halves H L n hL hn, ← and_high H _ hH (by omega), ← and_high L _ hL (by omega)]
  have p1 : 2 ^ (64 - min n 64) ≤ 2 ^ 64 := Nat.pow_le_pow_right (by omega) (by omega)
  have p2 : 0 < 2 ^ (64 - min n 64) := Nat.two_pow_pos _
  have p3 : 0 < 2 ^ min (128 - n) 64 := Nat.two_pow_pos _
  rw [u64_and_nat _ _ (by omega) (by omega), u64_and_nat _ _ (by omega) (by omega)]
  constructor
  · rintro ⟨h1, h2⟩
    exact ⟨Int.natCast_inj.1 h1, Int.natCast_inj.1 h2⟩
  · rintro ⟨h1, h2⟩
    exact ⟨Int.natCast_inj.2 h1, Int.natCast_inj.2 h2⟩

set_option maxHeartbeats 1000000 in
theorem mask6_any (n : Nat) (w : World) (hn : n ≤ 128) :
    Calls Ybad.prog 33 #[.int .i64 n] w fun e w' => e = .returned (.agg #[.int .u64 (maskHi n), .int .u64 (maskLo n)]) ∧ w' = (w.alloc (.cells #[.int .u64 (maskHi n), .int .u64 (maskLo n)] 29)).drew := by
  have b1 : (0 : Int) ≤ (n : Int) := by omega
  have b2 : (n : Int) ≤ 128 := by omega
  have b3 : IntKind.i64.wrap (128 - (n : Int)) = 128 - (n : Int) := by rw [IntKind.wrap_i64]; omega
  have b4 : (0 : Int) ≤ 128 - (n : Int) := by omega
  go_enter Ybad.func33, Ybad.ntmps33
  go_wp2
  go_region_held3 (fun w' => True) (trivial) (fail)
  all_goals go_wp2
  all_goals go_returns
  all_goals exact ⟨rfl, rfl⟩
end Go.Proofs.YbulkebiiDoor
