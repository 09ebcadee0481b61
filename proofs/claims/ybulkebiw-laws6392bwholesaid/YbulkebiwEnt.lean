import Derived.Test.YbulkebiwTime
import Derived.Deep.MidRow
import Derived.Deep.AppendLies
import Derived.Maps.AppendAt
namespace Go.Proofs.Ybulkebiw
open Go.RowKit
set_option linter.unusedVariables false

/-- An Entry's cells. -/
abbrev E14 (t i p : ByteArray) (W X : Int) (m l : Option Addr) : Array Value :=
  #[.string t, .string i, .string p, .int .u64 W, .int .i64 X, .pointer none, .pointer m, .pointer none, .pointer none, .pointer l, .pointer none, .pointer none, .pointer none, .pointer none]

theorem ptrs2 : ∀ t ∈ [68, 73, 74, 83, 84, 85, 86, 87, 88, 89], ((Yba.prog.underlying t).map (fun u => match u with | .pointer e => (Yba.prog.info? e).isSome | _ => false)) = some true := by
  intro t ht
  simp only [List.mem_cons, List.mem_nil_iff, or_false] at ht
  rcases ht with rfl | rfl | rfl | rfl | rfl | rfl | rfl | rfl | rfl | rfl <;> kernel_rfl

theorem ptr_at2 {t : Nat} (ht : t ∈ [68, 73, 74, 83, 84, 85, 86, 87, 88, 89]) : ∃ e j, Yba.prog.underlying t = some (.pointer e) ∧ Yba.prog.info? e = some j := by
  have h := ptrs2 t ht
  cases hu : Yba.prog.underlying t with
  | none => rw [hu] at h; simp at h
  | some u =>
    rw [hu] at h
    simp only [Option.map_some, Option.some.injEq] at h
    split at h
    · rename_i e
      cases hj : Yba.prog.info? e with
      | none => rw [hj] at h; simp at h
      | some j => exact ⟨e, j, rfl, hj⟩
    · cases h

theorem pin {t : Nat} (ht : t ∈ [68, 73, 74, 83, 84, 85, 86, 87, 88, 89]) (p : Option Addr) (w : World) (d : Nat) : (Op.equalIn (d + 1) t (.pointer p) (.pointer p)).run Yba.prog w = .ok true w := by
  obtain ⟨e, j, hu, hj⟩ := ptr_at2 ht
  cases p <;> simp [Op.equalIn, run_underlying hu, sizeOf, typeInfo, hj, run_sameAddr_same]

theorem nil74 (p : Option Addr) (w : World) : (binOp .neq 74 (.pointer p) (.pointer none)).run Yba.prog w = .ok (.bool p.isSome) w := by
  obtain ⟨e, j, hu, hj⟩ := ptr_at2 (t := 74) (by decide)
  have h : ∀ d : Nat, (Op.equalIn (d + 1) 74 (.pointer p) (.pointer none)).run Yba.prog w = .ok p.isNone w := fun d => by
    cases p <;> simp [Op.equalIn, run_underlying hu]
  simp only [binOp]
  simp [Op.equal, Op.maxDepth, h 9999]

set_option maxRecDepth 100000 in
set_option maxHeartbeats 2000000 in
theorem ent_same (t i p : ByteArray) (W X : Int) (m l : Option Addr) (w : World) : (binOp .neq 91 (.agg (E14 t i p W X m l)) (.agg (E14 t i p W X m l))).run Yba.prog w = .ok (.bool false) w := by
  have h : ∀ d, (Op.equalIn (d + 3) 91 (.agg (E14 t i p W X m l)) (.agg (E14 t i p W X m l))).run Yba.prog w = .ok true w := fun d => by
    have p68 : (Op.equalIn (d + 1) 68 (.pointer none) (.pointer none)).run Yba.prog w = .ok true w := pin (by decide) none w d
    have p73 : (Op.equalIn (d + 2) 73 (.pointer m) (.pointer m)).run Yba.prog w = .ok true w := pin (by decide) m w (d + 1)
    have p83 : (Op.equalIn (d + 2) 83 (.pointer none) (.pointer none)).run Yba.prog w = .ok true w := pin (by decide) none w (d + 1)
    have p84 : (Op.equalIn (d + 2) 84 (.pointer none) (.pointer none)).run Yba.prog w = .ok true w := pin (by decide) none w (d + 1)
    have p85 : (Op.equalIn (d + 2) 85 (.pointer l) (.pointer l)).run Yba.prog w = .ok true w := pin (by decide) l w (d + 1)
    have p86 : (Op.equalIn (d + 2) 86 (.pointer none) (.pointer none)).run Yba.prog w = .ok true w := pin (by decide) none w (d + 1)
    have p87 : (Op.equalIn (d + 2) 87 (.pointer none) (.pointer none)).run Yba.prog w = .ok true w := pin (by decide) none w (d + 1)
    have p88 : (Op.equalIn (d + 2) 88 (.pointer none) (.pointer none)).run Yba.prog w = .ok true w := pin (by decide) none w (d + 1)
    have p89 : (Op.equalIn (d + 2) 89 (.pointer none) (.pointer none)).run Yba.prog w = .ok true w := pin (by decide) none w (d + 1)
    rw [Op.equalIn]
    simp [go_sem, run_underlying Yba.underlying91, p68, p73, p83, p84, p85, p86, p87, p88, p89]
  simp only [binOp]
  simp [Op.equal, Op.maxDepth, h 9997]

attribute [local go_sem] nil74 str9

/-- A record's cells in the row of records. -/
structure RecAt (w : World) (gr i : Nat) (id : ByteArray) (W X : Int) (m o : Option Addr) : Prop where
  c0 : w.cell? ⟨gr, i * 6, none⟩ = some (.string id)
  c1 : w.cell? ⟨gr, i * 6 + 1, none⟩ = some (.int .u64 W)
  c2 : w.cell? ⟨gr, i * 6 + 2, none⟩ = some (.int .i64 X)
  c3 : w.cell? ⟨gr, i * 6 + 3, none⟩ = some (.pointer none)
  c4 : w.cell? ⟨gr, i * 6 + 4, none⟩ = some (.pointer m)
  c5 : w.cell? ⟨gr, i * 6 + 5, none⟩ = some (.pointer o)

theorem RecAt.later {w W' : World} {gr i : Nat} {id : ByteArray} {W X : Int} {m o : Option Addr} (h : RecAt w gr i id W X m o) (hb : Below w.heap.size w W') : RecAt W' gr i id W X m o :=
  ⟨cell_later hb h.c0, cell_later hb h.c1, cell_later hb h.c2, cell_later hb h.c3, cell_later hb h.c4, cell_later hb h.c5⟩

def msgB : ByteArray := ⟨#[109, 101, 115, 115, 97, 103, 101]⟩

set_option maxHeartbeats 4000000 in
set_option maxRecDepth 100000 in
theorem entry_none (gv gr gp n i : Nat) (id : ByteArray) (W X : Int) (m : Option Addr) (pv : Int) (pid : ByteArray) (w : World) (hi : i < n)
    (v0 : w.cell? ⟨gv, 0, none⟩ = some (.slice (some ⟨gr, 0, none⟩) n n)) (v1 : w.cell? ⟨gv, 1, none⟩ = some (.slice (some ⟨gp, 0, none⟩) n n)) (hr : RecAt w gr i id W X m none)
    (hp : w.cell? ⟨gp, i, none⟩ = some (.int .i64 pv)) (hpv : pv < n) (hpid : 0 ≤ pv → w.cell? ⟨gr, pv.toNat * 6, none⟩ = some (.string pid)) :
    Calls Yba.prog 9 #[.pointer (some ⟨gv, 0, none⟩), .int .i64 i] w fun e w' => e = .returned (.agg (E14 msgB id (if 0 ≤ pv then pid else ByteArray.empty) W X m none)) ∧ Below w.heap.size w w' := by
  obtain ⟨c0, c1, c2, c3, c4, c5⟩ := hr
  have b1 : (0 : Int) ≤ (i : Int) := by omega
  have b2 : (i : Int) < (n : Int) := by omega
  have l1 := World.block_lt_of_cell? _ _ v0
  have l2 := World.block_lt_of_cell? _ _ c0
  have l3 := World.block_lt_of_cell? _ _ hp
  by_cases hpos : 0 ≤ pv
  · have cp := hpid hpos
    rw [if_pos hpos]
    clear hpid
    go_enter Yba.func9, Yba.ntmps9
    go_wp2
    go_region_held3 (fun w' => w'.cell? ⟨gr, i * 6, none⟩ = some (.string id) ∧ w'.cell? ⟨gr, i * 6 + 1, none⟩ = some (.int .u64 W) ∧ w'.cell? ⟨gr, i * 6 + 2, none⟩ = some (.int .i64 X) ∧ w'.cell? ⟨gr, i * 6 + 3, none⟩ = some (.pointer none) ∧ w'.cell? ⟨gr, i * 6 + 4, none⟩ = some (.pointer m)) (go_keep) (fail)
    go_wp2
    go_returns
    exact ⟨rfl, (by repeat' (first | exact Below.refl _ _ | assumption | refine Below.setCell ?_ ?_ _ | refine Below.drew ?_ | refine Below.alloc ?_ ?_ _ | go_size))⟩
  · rw [if_neg hpos]
    clear hpid
    go_enter Yba.func9, Yba.ntmps9
    go_wp2
    go_region_held3 (fun w' => w'.cell? ⟨gr, i * 6, none⟩ = some (.string id) ∧ w'.cell? ⟨gr, i * 6 + 1, none⟩ = some (.int .u64 W) ∧ w'.cell? ⟨gr, i * 6 + 2, none⟩ = some (.int .i64 X) ∧ w'.cell? ⟨gr, i * 6 + 3, none⟩ = some (.pointer none) ∧ w'.cell? ⟨gr, i * 6 + 4, none⟩ = some (.pointer m)) (go_keep) (fail)
    go_wp2
    go_returns
    exact ⟨rfl, (by repeat' (first | exact Below.refl _ _ | assumption | refine Below.setCell ?_ ?_ _ | refine Below.drew ?_ | refine Below.alloc ?_ ?_ _ | go_size))⟩
end Go.Proofs.Ybulkebiw
