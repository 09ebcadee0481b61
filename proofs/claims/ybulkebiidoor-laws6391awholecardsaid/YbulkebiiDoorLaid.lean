import Derived.Test.YbulkebiiDoorLaw
import Derived.ProofKit
import Derived.LaidMore
import Derived.OpenShut
import Derived.Stop.Joined
namespace Go.Proofs.YbulkebiiDoor
open Go.ChangeShapes Go.WideShapes Go.ChangeAt Go.WideMaps Go.WideElems Go.RowKit

theorem gv0 : Ybad.prog.globalNamed "example.com/moorline/moorline/pkg/diameter.ErrInvalidAVPValue" = some 0 := by kernel_rfl
theorem gv1 : Ybad.prog.globalNamed "net/netip.z6noz" = some 1 := by kernel_rfl
theorem gv2 : Ybad.prog.globalNamed "net/netip.z0" = some 2 := by kernel_rfl
theorem gv3 : Ybad.prog.globalNamed "net/netip.z4" = some 3 := by kernel_rfl
theorem tv0 : (Ybad.prog.globals[0]?).map (·.type) = some 38 := by kernel_rfl
theorem tv1 : (Ybad.prog.globals[1]?).map (·.type) = some 32 := by kernel_rfl
theorem tv2 : (Ybad.prog.globals[2]?).map (·.type) = some 32 := by kernel_rfl
theorem tv3 : (Ybad.prog.globals[3]?).map (·.type) = some 32 := by kernel_rfl
theorem cells32 : Ybad.prog.cellsOf 32 = 1 := by kernel_rfl
theorem cells30 : Ybad.prog.cellsOf 30 = 1 := by kernel_rfl
theorem cells137 : Ybad.prog.cellsOf 137 = 2 := by kernel_rfl

/-- A handle in its cell. -/
theorem handle_of {W : World} {fuel : Nat} {cs : List Value} {d : DataW Unit} {ps : List MemPlace} (h : DataW.trod (fun _ => ()) Ybad.prog W 0 (fun _ => true) false fuel 32 cs = some (.agg [d], ps)) :
    (cs = [.pointer none] ∧ d = .nil) ∨ ∃ a cs', cs = [.pointer (some a)] ∧ (∀ x ∈ MemPlace.row a 2, x ∈ ps) ∧ W.cells? 0 a 2 = some cs' ∧ ∃ d', d = .ptr d' := by
  obtain ⟨xs, n, rfl, hx, hl, hn, hf⟩ := DataW.trod_struct Ybad.underlying32 h
  have h0 := hf 0 _ rfl
  rw [cells32] at hl
  simp only [Prod.mk.injEq, DataW.agg.injEq] at hx
  match xs, hn, hx, h0 with
  | [x0], _, hx, h0 =>
    simp only [List.map_cons, List.map_nil, List.cons.injEq, and_true, List.flatMap_cons, List.flatMap_nil, List.append_nil] at hx
    have h1 : DataW.trod (fun _ => ()) Ybad.prog W 0 (fun _ => true) false n 30 cs = some x0 := by
      have e : ((cs.drop 0).take (Ybad.prog.cellsOf 30)) = cs := by rw [cells30, List.drop_zero, List.take_of_length_le (by omega)]
      rw [← e]
      exact h0
    rcases DataW.trod_pointer Ybad.underlying30 h1 with ⟨e1, e2⟩ | ⟨a, cs', y, m, _, e1, e2, e3, _⟩
    · exact Or.inl ⟨e1, by rw [hx.1, e2]⟩
    · refine Or.inr ⟨a, cs', e1, ?_, by rw [← cells137]; exact e3, y.1, by rw [hx.1, e2]⟩
      rw [hx.2, e2, cells137]
      intro x hx'
      exact List.mem_append_left _ hx'

theorem star : "*" ++ "errors.errorString" = "*errors.errorString" := by decide
set_option maxRecDepth 100000 in
theorem row94 (u : TypeId) (h : Ybad.prog.typeName? 3 u = some "*errors.errorString") : u = 94 :=
  typeName_ptr_named (nm := "errors.errorString") (by rw [star]; kernel_rfl) (by kernel_rfl) (by decide) u (by rw [star]; exact h)

/-- What is read out of an interface. -/
theorem iface_of {P : Program} {t : TypeId} {ms : Array (String × TypeId)} {W : World} {fuel : Nat} {cs : List Value} {d : DataW Unit} {name : String} {ps : List MemPlace} (ht : P.underlying t = some (.interface ms)) (h : DataW.trod (fun _ => ()) P W 0 (fun _ => true) false fuel t cs = some (.iface name d, ps)) :
    ∃ u v n, cs = [.iface u v] ∧ P.typeName? 3 u = some name ∧ DataW.trod (fun _ => ()) P W 0 (fun _ => true) false n u v.cells.toList = some (d, ps) := by
  cases fuel with
  | zero => simp [DataW.trod] at h
  | succ n =>
    unfold DataW.trod at h
    rw [ht] at h
    split at h <;> simp_all
    next u v _ _ =>
      split at h
      · cases h
      · next nm hnm _ =>
        simp only [Option.map_eq_some_iff] at h
        obtain ⟨x, h1, h2⟩ := h
        simp only [Prod.mk.injEq, DataW.iface.injEq] at h2
        obtain ⟨⟨rfl, rfl⟩, rfl⟩ := h2
        exact ⟨_, _, ⟨rfl, rfl⟩, by assumption, n, h1⟩
      · cases h

set_option maxRecDepth 100000 in
/-- An error in its cell. -/
theorem err_of {W : World} {fuel : Nat} {cs : List Value} {d : DataW Unit} {ps : List MemPlace} (h : DataW.trod (fun _ => ()) Ybad.prog W 0 (fun _ => true) false fuel 38 cs = some (.iface "*errors.errorString" (.ptr d), ps))
    (hok : ∀ u v, cs = [.iface u v] → Value.okWide Ybad.prog W .any 0 u v) : ∃ pe, cs = [.iface 94 (.pointer (some pe))] := by
  obtain ⟨u, v, n, rfl, hu, hd⟩ := iface_of Ybad.underlying38 h
  obtain rfl := row94 u hu
  obtain ⟨a, rfl⟩ := okWide_pointer Ybad.underlying94 (hok _ _ rfl)
  cases a with
  | none =>
    rcases DataW.trod_pointer Ybad.underlying94 hd with ⟨_, e2⟩ | ⟨a, _, _, _, _, e1, _⟩
    · cases e2
    · simp [Value.cells] at e1
  | some pe => exact ⟨pe, rfl⟩

set_option maxRecDepth 100000 in
theorem of_laid {W : World} (h : laidMetH Ybad.prog Rows.lawS6391AWholeRow.laid W) : ∃ pe p6 p4, W.cell? ⟨0, 0, none⟩ = some (.iface 94 (.pointer (some pe))) ∧ Zs W p6 p4 := by
  rw [MakeChecks.laidMetH_plain _ _ _ (by kernel_rfl)] at h
  obtain ⟨ps, ⟨_, _, _, _, _, q0, _, _, _, _, ⟨_, _, _, _, _, q1, _, _, _, _, ⟨_, _, _, _, _, q2, _, _, _, _, ⟨g3, t3, cs3, f3, p3, q3, hg3, ht3, hv3, hd3, ⟨g4, t4, cs4, f4, p4, q4, hg4, ht4, hv4, hd4, ⟨g5, t5, cs5, f5, p5, q5, hg5, ht5, hv5, hd5, ⟨g6, t6, cs6, f6, p6, q6, hg6, ht6, hv6, hd6, _, s6⟩, s5⟩, s4⟩, s3⟩, s2⟩, s1⟩, s0⟩, hnd, hmine⟩ := h
  obtain rfl := Option.some.inj (gv0.symm.trans hg3)
  obtain rfl := Option.some.inj (gv3.symm.trans hg4)
  obtain rfl := Option.some.inj (gv1.symm.trans hg5)
  obtain rfl := Option.some.inj (gv2.symm.trans hg6)
  obtain rfl := Option.some.inj (tv0.symm.trans ht3)
  obtain rfl := Option.some.inj (tv3.symm.trans ht4)
  obtain rfl := Option.some.inj (tv1.symm.trans ht5)
  obtain rfl := Option.some.inj (tv2.symm.trans ht6)
  have c3 := World.var?_cell hg3 hv3 0
  have c4 := World.var?_cell hg4 hv4 0
  have c5 := World.var?_cell hg5 hv5 0
  have c6 := World.var?_cell hg6 hv6 0
  have u2 : ∀ x, x ∈ q1 → x ∈ ps := fun x hx => by rw [s0]; refine List.mem_append_right _ ?_; rw [s1]; exact List.mem_append_right _ hx
  have u3 : ∀ x, x ∈ q2 → x ∈ ps := fun x hx => u2 x (by rw [s2]; exact List.mem_append_right _ hx)
  have u4 : ∀ x, x ∈ q3 → x ∈ ps := fun x hx => u3 x (by rw [s3]; exact List.mem_append_right _ hx)
  have u5 : ∀ x, x ∈ q4 → x ∈ ps := fun x hx => u4 x (by rw [s4]; exact List.mem_append_right _ hx)
  have n1 : q0.Nodup := by rw [s0] at hnd; exact (List.nodup_append.1 hnd).2.1
  have n2 : q1.Nodup := by rw [s1] at n1; exact (List.nodup_append.1 n1).2.1
  have n3 : q2.Nodup := by rw [s2] at n2; exact (List.nodup_append.1 n2).2.1
  have n4 : q3.Nodup := by rw [s3] at n3; exact (List.nodup_append.1 n3).2.1
  rw [s4] at n4
  have n5 := (List.nodup_append.1 n4).2.2
  obtain ⟨pe, he⟩ := err_of (show DataW.trod (fun _ => ()) Ybad.prog W 0 (fun _ => true) false f3 38 cs3.toList = some (.iface "*errors.errorString" (.ptr (.agg [.lit (.string [105, 110, 118, 97, 108, 105, 100, 32, 65, 86, 80, 32, 118, 97, 108, 117, 101])])), p3) from hd3) (fun u v e => by
    have e' : cs3 = #[.iface u v] := Array.eq_one_of_toList e
    refine (hmine 0 0 (u3 _ ?_)).2 u v (by rw [c3, e']; rfl)
    rw [s3, e']
    exact List.mem_append_left _ (List.mem_append_left _ (by simp [MemPlace.row])))
  have he' : cs3 = #[.iface 94 (.pointer (some pe))] := Array.eq_one_of_toList he
  rcases handle_of (show DataW.trod (fun _ => ()) Ybad.prog W 0 (fun _ => true) false f4 32 cs4.toList = some (.agg [.ptr (.agg [.lit (.bool false), .lit (.string [])])], p4) from hd4) with ⟨_, e⟩ | ⟨a4, w4, e4, r4, _⟩
  · cases e
  rcases handle_of (show DataW.trod (fun _ => ()) Ybad.prog W 0 (fun _ => true) false f5 32 cs5.toList = some (.agg [.ptr (.agg [.lit (.bool true), .lit (.string [])])], p5) from hd5) with ⟨_, e⟩ | ⟨a6, w6, e6, r6, _⟩
  · cases e
  have e4' : cs4 = #[.pointer (some a4)] := Array.eq_one_of_toList e4
  have e6' : cs5 = #[.pointer (some a6)] := Array.eq_one_of_toList e6
  have e0' : cs6 = #[.pointer none] := by
    rcases handle_of (show DataW.trod (fun _ => ()) Ybad.prog W 0 (fun _ => true) false f6 32 cs6.toList = some (.agg [.nil], p6) from hd6) with ⟨e, _⟩ | ⟨_, _, _, _, _, _, e⟩
    · exact Array.eq_one_of_toList e
    · cases e
  have m6 : MemPlace.cell a6.block (a6.off + 0) ∈ p5 := r6 _ (by simp [MemPlace.row])
  have m4 : MemPlace.cell a4.block (a4.off + 0) ∈ p4 := r4 _ (by simp [MemPlace.row])
  refine ⟨pe, a6, a4, by rw [c3, he']; rfl, ⟨by rw [c5, e6']; rfl, by rw [c6, e0']; rfl, by rw [c4, e4']; rfl, ?_, ?_, ?_⟩⟩
  · intro e
    subst e
    refine n5 _ (List.mem_append_right _ m4) _ ?_ rfl
    rw [s5]
    exact List.mem_append_left _ (List.mem_append_right _ m6)
  · obtain ⟨c, t, hc⟩ := (hmine _ _ (u5 _ (by rw [s5]; exact List.mem_append_left _ (List.mem_append_right _ m6)))).1
    exact ⟨c, t, hc⟩
  · obtain ⟨c, t, hc⟩ := (hmine _ _ (u4 _ (by rw [s4]; exact List.mem_append_left _ (List.mem_append_right _ m4)))).1
    exact ⟨c, t, hc⟩
end Go.Proofs.YbulkebiiDoor
