import Derived.Test.YbulkebiwIfs
namespace Go.Proofs.Ybulkebiw
open Go.RowKit

set_option maxHeartbeats 4000000 in
set_option maxRecDepth 100000 in
theorem law_any (typ s1 s2 : ByteArray) (mask : Int) (flag : Bool) (w : World) (h0 : 0 ≤ mask) (h1 : mask ≤ 255) :
    Calls Yba.prog 3 #[.string typ, .int .u8 mask, .string s1, .string s2, .bool flag] w fun e w' => e = .returned (.bool true) ∧ Below w.heap.size w w' := by
  obtain ⟨e1, e2, e3, e4, e5⟩ := fin_bits ⟨mask.toNat, by omega⟩
  simp only [Int.toNat_of_nonneg h0] at e1 e2 e3 e4 e5
  go_enter Yba.func3, Yba.ntmps3
  iterate 57 go_step
  exact if7 typ s1 s2 mask flag w w (Below.refl _ _) e1 e2 e3 e4 e5
end Go.Proofs.Ybulkebiw
