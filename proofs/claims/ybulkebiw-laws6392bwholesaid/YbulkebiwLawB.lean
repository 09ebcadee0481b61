import Derived.Test.YbulkebiwSegT
namespace Go.Proofs.Ybulkebiw
open Go.RowKit
set_option linter.unusedVariables false

set_option maxHeartbeats 4000000 in
set_option maxRecDepth 100000 in
theorem lawB_any (iv : Int) (a ra : Option Addr) (n rb ro rc rn rcp qb qo : Nat) (R : Nat → Int) (D : Dat) (w : World) (hiv : 0 ≤ iv) (hnm : n ≤ maxLen) (hrm : rn ≤ maxLen) (ha : 0 < n → a = some ⟨rb, ro, none⟩) (hin : In w rb ro n D) (hok : Ok n D)
    (hra : 0 < rn → ra = some ⟨qb, qo, none⟩) (hR : ∀ i, i < rn → w.cell? ⟨qb, qo + i, none⟩ = some (.int .i64 (R i))) (hR2 : ∀ i, i < rn → R i ≤ 9223372036854775807) :
    Calls Yba.prog 4 #[.slice a n rc, .slice ra rn rcp, .int .u64 iv] w fun e w' => e = .returned (.bool true) ∧ Below w.heap.size w w' := by
  unfold maxLen at hnm hrm
  by_cases hn : n ≤ 1048576
  · have b0 : ¬ (1048576 < (n : Int)) := by omega
    by_cases hrn : rn ≤ 1048576
    · have b1 : ¬ (1048576 < (rn : Int)) := by omega
      by_cases h0 : n = 0
      · subst h0
        clear hin hok hR hR2 ha hra
        go_enter Yba.func4, Yba.ntmps4
        go_wp2
        go_ret
        exact ⟨rfl, Below.refl _ _⟩
      · have b2 : ¬ ((n : Int) = 0) := by omega
        obtain rfl := ha (by omega)
        have HI := hid hin
        have HOK := hid hok
        have HRA := hid hra
        have HR := hid hR
        have HR2 := hid hR2
        clear hin hok hR hR2 hra ha
        go_enter Yba.func4, Yba.ntmps4
        go_upto_if 36 with fail
        go_step
        go_step
        go_step
        go_step
        exact segT iv ra n rb ro rc rn rcp qb qo R D w (by omega) hiv hn hrn HI.out HOK.out HRA.out HR.out HR2.out
    · have b1 : (1048576 < (rn : Int)) := by omega
      clear hin hok hR hR2 ha hra
      go_enter Yba.func4, Yba.ntmps4
      go_wp2
      go_ret
      exact ⟨rfl, Below.refl _ _⟩
  · have b0 : (1048576 < (n : Int)) := by omega
    clear hin hok hR hR2 ha hra
    go_enter Yba.func4, Yba.ntmps4
    go_wp2
    go_ret
    exact ⟨rfl, Below.refl _ _⟩
end Go.Proofs.Ybulkebiw
