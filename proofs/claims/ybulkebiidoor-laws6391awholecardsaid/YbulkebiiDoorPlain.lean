import Derived.WalkKit
import Derived.Lib.EndianBits
namespace Go.Proofs.YbulkebiiDoor

/-! ### Bytes and the numbers that they spell: no Go in sight -/

/-- The number that the bytes spell, the greatest first. -/
def val (l : List Nat) : Nat := l.foldl (fun acc b => acc * 256 + b) 0

theorem val_snoc (l : List Nat) (b : Nat) : val (l ++ [b]) = val l * 256 + b := by simp [val]

theorem snoc_rec {p : List Nat → Prop} (h0 : p []) (h1 : ∀ l b, p l → p (l ++ [b])) (l : List Nat) : p l := by
  have : ∀ r : List Nat, p r.reverse := by
    intro r
    induction r with
    | nil => exact h0
    | cons b r ih => rw [List.reverse_cons]; exact h1 _ _ ih
  simpa using this l.reverse

/-- Bit r of byte k, found in the number. -/
theorem val_bit : ∀ (l : List Nat), (∀ x ∈ l, x < 256) → ∀ k r, k < l.length → r < 8 → (val l).testBit (8 * (l.length - 1 - k) + r) = (l.getD k 0).testBit r := by
  refine snoc_rec ?_ ?_
  · intro _ k r hk; exact absurd hk (Nat.not_lt_zero _)
  · intro l b ih hx k r hk hr
    have hb : b < 256 := hx b (by simp)
    have hl : ∀ x ∈ l, x < 256 := fun x h => hx x (by simp [h])
    rw [val_snoc, show val l * 256 + b = 2 ^ 8 * val l + b by omega, Nat.testBit_two_pow_mul_add _ (by omega)]
    simp only [List.length_append, List.length_cons, List.length_nil, Nat.zero_add] at hk ⊢
    by_cases hkl : k = l.length
    · subst hkl
      rw [if_pos (by omega)]
      simp
    · rw [if_neg (by omega)]
      have := ih hl k r (by omega) hr
      rw [show 8 * (l.length + 1 - 1 - k) + r - 8 = 8 * (l.length - 1 - k) + r by omega, this]
      congr 1
      simp [List.getD, List.getElem?_append_left (show k < l.length by omega)]

theorem val_lt : ∀ (l : List Nat), (∀ x ∈ l, x < 256) → val l < 256 ^ l.length := by
  refine snoc_rec ?_ ?_
  · intro _; simp [val]
  · intro l b ih hx
    have hb : b < 256 := hx b (by simp)
    have := ih (fun x h => hx x (by simp [h]))
    rw [val_snoc, List.length_append, List.length_singleton, Nat.pow_succ]
    omega

theorem val_append (l m : List Nat) : val (l ++ m) = val l * 256 ^ m.length + val m := by
  refine snoc_rec (p := fun m => val (l ++ m) = val l * 256 ^ m.length + val m) ?_ ?_ m
  · simp [val]
  · intro m b ih
    rw [← List.append_assoc, val_snoc, ih, val_snoc, List.length_append, List.length_singleton, Nat.pow_succ]
    rw [Nat.add_mul, Nat.mul_assoc]
    omega

/-- No bit below m is set. -/
theorem mod_zero_iff (T m : Nat) : T % 2 ^ m = 0 ↔ ∀ j, j < m → T.testBit j = false := by
  constructor
  · intro h j hj
    have := Nat.testBit_mod_two_pow T m j
    rw [h] at this
    simpa [hj] using this
  · intro h
    apply Nat.eq_of_testBit_eq
    intro j
    rw [Nat.testBit_mod_two_pow]
    by_cases hj : j < m
    · simp [hj, h j hj]
    · simp [hj]

/-- The numbers whose bits from j on are all set, of 64. -/
theorem and_high (a j : Nat) (ha : a < 2 ^ 64) (hj : j ≤ 64) : (a &&& (2 ^ 64 - 2 ^ j) = a) ↔ a % 2 ^ j = 0 := by
  have hm : ∀ i, (2 ^ 64 - 2 ^ j).testBit i = (decide (j ≤ i) && decide (i < 64)) := by
    intro i
    have e : 2 ^ 64 - 2 ^ j = (2 ^ (64 - j) - 1) <<< j := by
      rw [Nat.shiftLeft_eq, Nat.sub_mul, ← Nat.pow_add, show 64 - j + j = 64 by omega]
      omega
    rw [e, Nat.testBit_shiftLeft, Nat.testBit_two_pow_sub_one]
    by_cases h1 : j ≤ i
    · simp only [h1, decide_true, Bool.true_and]
      by_cases h2 : i < 64
      · simp [h2]; omega
      · simp [h2]; omega
    · simp [h1]
  rw [mod_zero_iff]
  constructor
  · intro h i hi
    have := congrArg (fun x => x.testBit i) h
    simp only [Nat.testBit_and, hm] at this
    rw [show decide (j ≤ i) = false by simp; omega] at this
    simpa using this.symm
  · intro h
    apply Nat.eq_of_testBit_eq
    intro i
    rw [Nat.testBit_and, hm]
    by_cases h1 : j ≤ i
    · by_cases h2 : i < 64
      · simp [h1, h2]
      · have : a.testBit i = false := Nat.testBit_lt_two_pow (Nat.lt_of_lt_of_le ha (Nat.pow_le_pow_right (by omega) (by omega)))
        simp [this]
    · simp [h i (by omega)]

/-- The two halves of the mask against the whole. -/
theorem halves (H L n : Nat) (hL : L < 2 ^ 64) (hn : n ≤ 128) : (H % 2 ^ (64 - min n 64) = 0 ∧ L % 2 ^ min (128 - n) 64 = 0) ↔ (H * 2 ^ 64 + L) % 2 ^ (128 - n) = 0 := by
  by_cases h : n ≤ 64
  · rw [show min n 64 = n by omega, show min (128 - n) 64 = 64 by omega, show 128 - n = 64 + (64 - n) by omega, Nat.mod_eq_of_lt hL]
    constructor
    · rintro ⟨h1, h2⟩
      subst h2
      obtain ⟨q, hq⟩ := Nat.dvd_of_mod_eq_zero h1
      rw [hq, Nat.pow_add]
      apply Nat.mod_eq_zero_of_dvd
      exact ⟨q, by rw [Nat.add_zero, Nat.mul_comm (2 ^ 64), Nat.mul_right_comm]⟩
    · intro h1
      obtain ⟨q, hq⟩ := Nat.dvd_of_mod_eq_zero h1
      rw [Nat.pow_add, Nat.mul_assoc] at hq
      have hl0 : L = 0 := by
        have : (H * 2 ^ 64 + L) % 2 ^ 64 = 0 := by rw [hq]; exact Nat.mul_mod_right _ _
        rw [Nat.add_comm, Nat.add_mul_mod_self_right, Nat.mod_eq_of_lt hL] at this
        exact this
      subst hl0
      refine ⟨?_, rfl⟩
      have : H = 2 ^ (64 - n) * q := by
        rw [Nat.add_zero, Nat.mul_comm] at hq
        exact Nat.eq_of_mul_eq_mul_left (by decide) hq
      rw [this]
      exact Nat.mul_mod_right _ _
  · rw [show 64 - min n 64 = 0 by omega, show min (128 - n) 64 = 128 - n by omega]
    have e : (H * 2 ^ 64 + L) % 2 ^ (128 - n) = L % 2 ^ (128 - n) := by
      have : 2 ^ 64 = 2 ^ (128 - n) * 2 ^ (n - 64) := by rw [← Nat.pow_add]; congr 1; omega
      rw [this, ← Nat.mul_assoc, Nat.mul_comm H, Nat.mul_assoc, Nat.add_comm, Nat.add_mul_mod_self_left]
    rw [e]
    simp [Nat.mod_one]

/-- Some bit at or past n is set in the sixteen bytes, the greatest bit first. -/
def stray (X : List Nat) (n : Nat) : Bool := (List.range 128).any fun i => decide (n ≤ i) && (X.getD (i / 8) 0).testBit (7 - i % 8)

theorem stray_iff (X : List Nat) (n : Nat) (hX : X.length = 16) (hb : ∀ x ∈ X, x < 256) (hn : n ≤ 128) : stray X n = false ↔ val X % 2 ^ (128 - n) = 0 := by
  rw [mod_zero_iff, stray]
  have key : ∀ i, i < 128 → (val X).testBit (127 - i) = (X.getD (i / 8) 0).testBit (7 - i % 8) := by
    intro i hi
    have := val_bit X hb (i / 8) (7 - i % 8) (by omega) (by omega)
    rw [hX] at this
    rw [← this]
    congr 1
    omega
  simp only [List.any_eq_false, List.mem_range, Bool.and_eq_true, decide_eq_true_eq, not_and, Bool.not_eq_true]
  constructor
  · intro h j hj
    have := h (127 - j) (by omega) (by omega)
    rw [← key (127 - j) (by omega), show 127 - (127 - j) = j by omega] at this
    exact this
  · intro h i hi hni
    rw [← key i hi]
    exact h _ (by omega)
end Go.Proofs.YbulkebiiDoor
