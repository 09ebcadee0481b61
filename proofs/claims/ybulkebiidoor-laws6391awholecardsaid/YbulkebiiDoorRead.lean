import Derived.Test.YbulkebiiDoorEqual
import Derived.Deep.DeepCutAuto
namespace Go.Proofs.YbulkebiiDoor
open Go.RowKit

/-- The sixteen octets that the field spells, zero-padded. -/
def padN (zs : List Int) : List Nat := ((zs.drop 2).map Int.toNat ++ List.replicate 16 0).take 16
def padI (zs : List Int) (i : Nat) : Int := ((padN zs).getD i 0 : Nat)
def bitsN (zs : List Int) : Nat := (zs.getD 1 0).toNat

/-- The data that are accepted. -/
def good (zs : List Int) : Bool := decide (2 ≤ zs.length) && decide (zs.length ≤ 18) && decide (bitsN zs ≤ 8 * (zs.length - 2)) && !stray (padN zs) (bitsN zs)

theorem padN_length (zs : List Int) : (padN zs).length = 16 := by simp [padN]

theorem padN_byte (zs : List Int) (hb : ∀ z ∈ zs, byte z) : ∀ x ∈ padN zs, x < 256 := by
  intro x hx
  have := List.mem_of_mem_take hx
  rcases List.mem_append.1 this with h | h
  · obtain ⟨z, hz, rfl⟩ := List.mem_map.1 h
    have := hb z (List.mem_of_mem_drop hz)
    unfold byte at this
    omega
  · have := (List.mem_replicate.1 h).2
    omega

theorem padI_byte (zs : List Int) (hb : ∀ z ∈ zs, byte z) (i : Nat) : byte (padI zs i) := by
  unfold byte padI
  by_cases hi : i < 16
  · have : (padN zs).getD i 0 ∈ padN zs := by
      rw [List.getD, List.getElem?_eq_getElem (by rw [padN_length]; exact hi)]
      exact List.getElem_mem _
    have := padN_byte zs hb _ this
    omega
  · rw [List.getD, List.getElem?_eq_none (by rw [padN_length]; omega)]
    simp

/-- What readIPv6Prefix leaves. -/
def ReadPost (w : World) (code flags vendor : Int) (a : Option Addr) (c : Nat) (zs : List Int) (te : TypeId) (ev : Value) (p6 : Addr) (e : Ending) (w' : World) : Prop :=
  Below w.heap.size w w' ∧ if good zs = true then e = .returned (.tuple #[.agg #[.int .u64 (be8 (padI zs 0) (padI zs 1) (padI zs 2) (padI zs 3) (padI zs 4) (padI zs 5) (padI zs 6) (padI zs 7)), .int .u64 (be8 (padI zs 8) (padI zs 9) (padI zs 10) (padI zs 11) (padI zs 12) (padI zs 13) (padI zs 14) (padI zs 15)), .pointer (some p6), .int .u8 ((bitsN zs : Int) + 1)], .nilIface])
    else ∃ g, e = .returned (.tuple #[.agg #[.int .u64 0, .int .u64 0, .pointer none, .int .u8 0], .iface 48 (.pointer (some ⟨g, 0, none⟩))]) ∧ w.heap.size ≤ g ∧ w'.heap[g]? = some (.cells #[.iface te ev, .int .u32 code, .int .u8 flags, .int .u32 vendor, .slice a zs.length c] 51 (0, 0))

set_option maxHeartbeats 4000000 in
set_option maxRecDepth 100000 in
theorem read_short (code flags vendor : Int) (a : Option Addr) (c : Nat) (zs : List Int) (te : TypeId) (ev : Value) (p6 : Addr) (w : World) (hl : zs.length ≤ maxLen) (k0 : w.cell? ⟨0, 0, none⟩ = some (.iface te ev)) (hs : zs.length < 2 ∨ 18 < zs.length) :
    Calls Ybad.prog 5 #[.agg #[.int .u32 code, .int .u8 flags, .int .u32 vendor, .slice a zs.length c]] w (ReadPost w code flags vendor a c zs te ev p6) := by
  unfold maxLen at hl
  have hg : good zs = false := by
    unfold good
    rcases hs with h | h
    · rw [decide_eq_false (show ¬ 2 ≤ zs.length by omega)]; rfl
    · rw [decide_eq_false (show ¬ zs.length ≤ 18 by omega)]; simp
  have HG := hid hg
  have l0 : 0 < w.heap.size := World.block_lt_of_cell? _ _ k0
  obtain ⟨n, hn⟩ : ∃ n, n = zs.length := ⟨_, rfl⟩
  have HN := hid hn
  rw [← hn] at hl hs
  have e1 : (Value.agg #[.int .u32 code, .int .u8 flags, .int .u32 vendor, .slice a zs.length c]) = .agg #[.int .u32 code, .int .u8 flags, .int .u32 vendor, .slice a n c] := by rw [hn]
  rw [e1]
  clear hg hn e1
  have HI := hid (fun W h => invalid_any code flags vendor a n c te ev W h)
  rcases hs with h | h
  · go_enter Ybad.func5, Ybad.ntmps5
    go_wp2_with fail
    refine (HI.out _ (cell_later (by repeat' (first | exact Below.refl _ _ | assumption | refine Below.setCell ?_ ?_ _ | refine quiet_below _ _ ?_ _ | refine Below.drew ?_ | refine Below.alloc ?_ ?_ _ | go_size)) k0)).mono ?_
    rintro e w1 ⟨rfl, rfl⟩
    clear HI
    go_wp2
    go_returns
    refine ⟨(by repeat' (first | exact Below.refl _ _ | assumption | refine Below.setCell ?_ ?_ _ | refine quiet_below _ _ ?_ _ | refine Below.drew ?_ | refine Below.alloc ?_ ?_ _ | go_size)), ?_⟩
    rw [if_neg (by rw [HG.out]; simp), ← HN.out]
    exact ⟨_, rfl, by go_size, heap_at _ _ _ (by simp)⟩
  · have h2 : ¬ n < 2 := by omega
    go_enter Ybad.func5, Ybad.ntmps5
    go_wp2_with fail
    refine (HI.out _ (cell_later (by repeat' (first | exact Below.refl _ _ | assumption | refine Below.setCell ?_ ?_ _ | refine quiet_below _ _ ?_ _ | refine Below.drew ?_ | refine Below.alloc ?_ ?_ _ | go_size)) k0)).mono ?_
    rintro e w1 ⟨rfl, rfl⟩
    clear HI
    go_wp2
    go_returns
    refine ⟨(by repeat' (first | exact Below.refl _ _ | assumption | refine Below.setCell ?_ ?_ _ | refine quiet_below _ _ ?_ _ | refine Below.drew ?_ | refine Below.alloc ?_ ?_ _ | go_size)), ?_⟩
    rw [if_neg (by rw [HG.out]; simp), ← HN.out]
    exact ⟨_, rfl, by go_size, heap_at _ _ _ (by simp)⟩
end Go.Proofs.YbulkebiiDoor
