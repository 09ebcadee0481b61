import Derived.Test.YbulkebiiDoorPut
import Derived.Shelf.Bytes.SlEqualAll
namespace Go.Proofs.YbulkebiiDoor
open Go.RowKit

/-- The bytes zs lie behind the address a (where there is one to be read). -/
def Byt (w : World) (a : Option Addr) (zs : List Int) : Prop :=
  zs = [] ∨ ∃ b off, a = some ⟨b, off, none⟩ ∧ ∀ i, i < zs.length → w.cell? ⟨b, off + i, none⟩ = some (.int .u8 (zs.getD i 0))

theorem Byt.later {w W : World} {a : Option Addr} {zs : List Int} (h : Byt w a zs) (hb : Below w.heap.size w W) : Byt W a zs := by
  rcases h with rfl | ⟨b, off, rfl, hc⟩
  · exact Or.inl rfl
  · exact Or.inr ⟨b, off, rfl, fun i hi => cell_later hb (hc i hi)⟩

theorem Byt.convert {w : World} {a : Option Addr} {zs : List Int} (h : Byt w a zs) (c : Nat) : (Go.convert 23 9 (.slice a zs.length c)).run Ybad.prog w = .ok (.string (strOfNums zs)) w := by
  rcases h with rfl | ⟨b, off, rfl, hc⟩
  · exact run_convert_bytes_zero w 23 5 Ybad.underlying23 Ybad.underlying5 a c 9 Ybad.underlying9
  · exact run_convert_bytes_arg (P := Ybad.prog) w 23 5 Ybad.underlying23 Ybad.underlying5 b off zs.length c zs rfl hc 9 Ybad.underlying9

theorem equal_any (a a' : Option Addr) (c c' : Nat) (zs : List Int) (w : World) (h : Byt w a zs) (h' : Byt w a' zs) :
    Calls Ybad.prog 6 #[.slice a zs.length c, .slice a' zs.length c'] w fun e w' => e = .returned (.bool true) ∧ w' = w := by
  have q := h.convert c
  have q' := h'.convert c'
  clear h h'
  go_enter Ybad.func6, Ybad.ntmps6
  go_wp2
  go_ret
  exact ⟨rfl, rfl⟩

theorem invalid_any (code flags vendor : Int) (a : Option Addr) (n c : Nat) (te : TypeId) (ev : Value) (w : World) (k0 : w.cell? ⟨0, 0, none⟩ = some (.iface te ev)) :
    Calls Ybad.prog 15 #[.agg #[.int .u32 code, .int .u8 flags, .int .u32 vendor, .slice a n c]] w fun e w' => e = .returned (.iface 48 (.pointer (some ⟨w.heap.size + 1, 0, none⟩))) ∧
      w' = (w.alloc (.cells #[.int .u32 code, .int .u8 flags, .int .u32 vendor, .slice a n c] 26)).alloc (.cells #[.iface te ev, .int .u32 code, .int .u8 flags, .int .u32 vendor, .slice a n c] 51) := by
  have l0 : 0 < w.heap.size := World.block_lt_of_cell? _ _ k0
  go_enter Ybad.func15, Ybad.ntmps15
  go_wp2
  go_ret
  exact ⟨rfl, rfl⟩
end Go.Proofs.YbulkebiiDoor
