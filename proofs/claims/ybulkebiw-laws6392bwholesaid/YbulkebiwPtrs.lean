import Derived.Test.YbulkebiwRows
import Derived.WalkKit
import Derived.WalkSpells
import Derived.WalkLawsBesides
import Derived.Deep.QuietTactic
import Derived.BigQuiet
import Derived.BigRegion
import Derived.Deep.RegionHeld3
import Derived.Deep.LoopGhost
import Derived.OneCell
import Derived.Handy
import Derived.LaidEqlPtr
import Derived.Deep.DeepCutAuto
import Derived.Deep.CutBlock
namespace Go.Proofs.Ybulkebiw
open Go.RowKit

def dropSeq : Nat → Code → Code
  | 0, c => c
  | n + 1, .seq _ b => dropSeq n b
  | _ + 1, c => c

theorem hid {p : Prop} (h : p) : Hid p := h

/-- The six kinds of pointer that a content item holds. -/
theorem ptrs : ∀ t ∈ [22, 23, 24, 25, 26, 27], ((Yba.prog.underlying t).map (fun u => match u with | .pointer e => (Yba.prog.info? e).isSome | _ => false)) = some true := by
  intro t ht
  simp only [List.mem_cons, List.mem_nil_iff, or_false] at ht
  rcases ht with rfl | rfl | rfl | rfl | rfl | rfl <;> kernel_rfl

theorem ptr_at {t : Nat} (ht : t ∈ [22, 23, 24, 25, 26, 27]) : ∃ e j, Yba.prog.underlying t = some (.pointer e) ∧ Yba.prog.info? e = some j := by
  have h := ptrs t ht
  cases hu : Yba.prog.underlying t with
  | none => rw [hu] at h; simp at h
  | some u =>
    rw [hu] at h
    simp only [Option.map_some, Option.some.injEq] at h
    split at h
    · rename_i e
      cases hj : Yba.prog.info? e with
      | none => rw [hj] at h; simp at h
      | some j => exact ⟨e, j, rfl, hj⟩
    · cases h

theorem ptr_same {t : Nat} (ht : t ∈ [22, 23, 24, 25, 26, 27]) (p : Option Addr) (w : World) : (binOp .neq t (.pointer p) (.pointer p)).run Yba.prog w = .ok (.bool false) w := by
  obtain ⟨e, j, hu, hj⟩ := ptr_at ht
  have h : ∀ d : Nat, (Op.equalIn (d + 1) t (.pointer p) (.pointer p)).run Yba.prog w = .ok true w := fun d => by
    cases p <;> simp [Op.equalIn, run_underlying hu, sizeOf, typeInfo, hj, run_sameAddr_same]
  simp only [binOp]
  simp [Op.equal, Op.maxDepth, h 9999]

theorem ptr_nil {t : Nat} (ht : t ∈ [22, 23, 24, 25, 26, 27]) (p : Option Addr) (w : World) : (binOp .neq t (.pointer p) (.pointer none)).run Yba.prog w = .ok (.bool p.isSome) w := by
  obtain ⟨e, j, hu, hj⟩ := ptr_at ht
  have h : ∀ d : Nat, (Op.equalIn (d + 1) t (.pointer p) (.pointer none)).run Yba.prog w = .ok p.isNone w := fun d => by
    cases p <;> simp [Op.equalIn, run_underlying hu]
  simp only [binOp]
  simp [Op.equal, Op.maxDepth, h 9999]

theorem same22 (p : Option Addr) (w : World) : (binOp .neq 22 (.pointer p) (.pointer p)).run Yba.prog w = .ok (.bool false) w := ptr_same (by decide) p w
theorem same23 (p : Option Addr) (w : World) : (binOp .neq 23 (.pointer p) (.pointer p)).run Yba.prog w = .ok (.bool false) w := ptr_same (by decide) p w
theorem same24 (p : Option Addr) (w : World) : (binOp .neq 24 (.pointer p) (.pointer p)).run Yba.prog w = .ok (.bool false) w := ptr_same (by decide) p w
theorem same25 (p : Option Addr) (w : World) : (binOp .neq 25 (.pointer p) (.pointer p)).run Yba.prog w = .ok (.bool false) w := ptr_same (by decide) p w
theorem same26 (p : Option Addr) (w : World) : (binOp .neq 26 (.pointer p) (.pointer p)).run Yba.prog w = .ok (.bool false) w := ptr_same (by decide) p w
theorem same27 (p : Option Addr) (w : World) : (binOp .neq 27 (.pointer p) (.pointer p)).run Yba.prog w = .ok (.bool false) w := ptr_same (by decide) p w
theorem nil22 (p : Option Addr) (w : World) : (binOp .neq 22 (.pointer p) (.pointer none)).run Yba.prog w = .ok (.bool p.isSome) w := ptr_nil (by decide) p w
theorem nil23 (p : Option Addr) (w : World) : (binOp .neq 23 (.pointer p) (.pointer none)).run Yba.prog w = .ok (.bool p.isSome) w := ptr_nil (by decide) p w
theorem nil24 (p : Option Addr) (w : World) : (binOp .neq 24 (.pointer p) (.pointer none)).run Yba.prog w = .ok (.bool p.isSome) w := ptr_nil (by decide) p w
theorem nil25 (p : Option Addr) (w : World) : (binOp .neq 25 (.pointer p) (.pointer none)).run Yba.prog w = .ok (.bool p.isSome) w := ptr_nil (by decide) p w
theorem nil26 (p : Option Addr) (w : World) : (binOp .neq 26 (.pointer p) (.pointer none)).run Yba.prog w = .ok (.bool p.isSome) w := ptr_nil (by decide) p w
theorem nil27 (p : Option Addr) (w : World) : (binOp .neq 27 (.pointer p) (.pointer none)).run Yba.prog w = .ok (.bool p.isSome) w := ptr_nil (by decide) p w

/-- A row of the table. -/
def rows (p0 p1 p2 p3 p4 p5 : Option Addr) : Array Value :=
  #[.string ⟨#[116, 101, 120, 116]⟩, .bool p0.isSome, .iface 22 (.pointer p0), .string ⟨#[105, 109, 97, 103, 101]⟩, .bool p1.isSome, .iface 23 (.pointer p1),
    .string ⟨#[116, 111, 111, 108, 95, 117, 115, 101]⟩, .bool p2.isSome, .iface 24 (.pointer p2), .string ⟨#[116, 111, 111, 108, 95, 114, 101, 115, 117, 108, 116]⟩, .bool p3.isSome, .iface 25 (.pointer p3),
    .string ⟨#[116, 104, 105, 110, 107, 105, 110, 103]⟩, .bool p4.isSome, .iface 26 (.pointer p4), .string ⟨#[114, 101, 100, 97, 99, 116, 101, 100, 95, 116, 104, 105, 110, 107, 105, 110, 103]⟩, .bool p5.isSome, .iface 27 (.pointer p5)]


theorem str9 (s : ByteArray) (w : World) : (binOp .neq 9 (.string s) (.string s)).run Yba.prog w = .ok (.bool false) w := by
  simp [go_sem]
theorem str44 (s : ByteArray) (w : World) : (binOp .neq 44 (.string s) (.string s)).run Yba.prog w = .ok (.bool false) w := by
  simp [go_sem]
theorem bool4 (b : Bool) (w : World) : (binOp .neq 4 (.bool b) (.bool b)).run Yba.prog w = .ok (.bool false) w := by
  simp [go_sem]
theorem map34 (w : World) : (binOp .neq 34 (.map none) (.map none)).run Yba.prog w = .ok (.bool false) w := by
  have h : ∀ d : Nat, (Op.equalIn (d + 1) 34 (.map none) (.map none)).run Yba.prog w = .ok true w := fun d => by
    simp [Op.equalIn, run_underlying Yba.underlying34]
  simp only [binOp]
  simp [Op.equal, Op.maxDepth, h 9999]
end Go.Proofs.Ybulkebiw
