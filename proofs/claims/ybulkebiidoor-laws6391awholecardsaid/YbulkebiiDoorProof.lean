import Derived.Test.YbulkebiiDoorLaid
import Derived.Test.YbulkebiiDoorTie
import Derived.Test.YbulkebiiDoorCards
import Derived.WalkKit
import Derived.ProofKit
import Derived.OpenShut
import Derived.ChangeOld
import Derived.ChangeVars
import Derived.ChangeSlices
import Derived.Below
import Derived.WalkSmall
import Derived.SizedLaws
import Derived.SevenTiedAt
import Derived.RowKitTokens
namespace Go.Proofs.YbulkebiiDoor.lawS6391AWhole
open Go.ChangeShapes Go.WideShapes Go.ChangeAt Go.RowKit
set_option linter.unusedVariables false

theorem own : ownKnob Ybad.prog.godebug = none := by kernel_rfl
theorem laidOut : laidOutB Ybad.prog = true := by kernel_rfl
theorem cells5 : Ybad.prog.cellsOf 5 = 1 := by kernel_rfl

/-- A start for the witness: the variables and what they reach as the door's run leaves them, the blocks between as a run begins. -/
def mend (P : Program) (w : World) : World :=
  let w₀ := (begin P (fun _ _ => 0) default).world
  { w with heap := (w.heap.toList.take P.globals.size ++ w₀.heap.toList.drop P.globals.size ++ w.heap.toList.drop w₀.heap.size).toArray }

set_option maxRecDepth 100000 in
/-- The mended heap meets the condition. -/
theorem door_met (os : Os) (args : Array Value) : laidMetH Ybad.prog Rows.lawS6391AWholeRow.laid ((mend Ybad.prog (World.doorLaid Ybad.prog 169 os)).forCall (fun _ _ => 0) ⟨#[], args, []⟩).memory :=
  laidMetH_of_parts3 (fuel := 8) (laidMet_of_run' 8 (by kernel_rfl) (by kernel_rfl)) (by kernel_rfl) (by kernel_rfl)

set_option maxHeartbeats 1000000 in
set_option maxRecDepth 100000 in
theorem lifted (os : Os) (started : os.Started) (H : Type) (enc : TypeId × Value → H) :
    ReturnsInHanded {} Ybad.checked os 3 .any (fun w args => (Rows.lawS6391AWholeSpec.pre enc Ybad.prog Ybad.f3 [] false w args ∧ laidMetH Ybad.prog Rows.lawS6391AWholeRow.laid w) ∧ sizedMet enc Ybad.prog Ybad.f3 (OpenSpec.ofChange Rows.lawS6391AWholeSpec) false w args)
      (Rows.lawS6391AWholeSpec.post enc Ybad.prog Ybad.f3 false true false false) := by
  refine returnsInHanded_of_change_and (C := Ybad.checked) (X := fun w _ => laidMetH Ybad.prog Rows.lawS6391AWholeRow.laid w) (fun _ _ _ hh h => h.of_heap hh) own started (by kernel_rfl) Ybad.func3
    (ChangeSpec.witness_shaped (enc := enc) (C := Ybad.checked) (os := os) (X := fun w _ => laidMetH Ybad.prog Rows.lawS6391AWholeRow.laid w) false (mend Ybad.prog (World.doorLaid Ybad.prog 169 os)) #[.int .u32 0, .int .u8 0, .int .u32 0, .slice none 0 0] 8 rfl (World.shaped_of_RefB (by kernel_rfl) (by kernel_rfl)) (by kernel_rfl) (by kernel_rfl) (by kernel_rfl) (door_met os _)) ?_
  intro W base args ds gs before hval0 hW _ _ hL _
  have hval : ∀ (j : Nat) t v, Ybad.f3.params[j]? = some t → args[j]? = some v → Value.okWide Ybad.prog W .any base t v := hval0
  have hW' := hW
  obtain ⟨p, q, hA0, hV0, rfl, hfz, hnd⟩ := hW
  have hA : DataW.TrodAll enc Ybad.prog W 0 (fun _ => true) true Ybad.f3.params.toList args.toList ds p := hA0
  have hV : DataW.TrodVars enc Ybad.prog W (fun _ => true) ["example.com/moorline/moorline/pkg/diameter.ErrInvalidAVPValue"] gs q := hV0
  rw [Ybad.params3] at hA hval
  obtain ⟨v0, vs0, d0, ds0, p0, q0, hargs, rfl, rfl, h0, r0⟩ := trodAll_cons hA
  obtain ⟨v1, vs1, d1, ds1, p1, q1, rfl, rfl, rfl, h1, r1⟩ := trodAll_cons r0
  obtain ⟨v2, vs2, d2, ds2, p2, q2, rfl, rfl, rfl, h2, r2⟩ := trodAll_cons r1
  obtain ⟨v3, vs3, d3, ds3, p3, q3, rfl, rfl, rfl, h3, r3⟩ := trodAll_cons r2
  obtain ⟨rfl, rfl, rfl⟩ := trodAll_nil r3
  obtain rfl : args = #[v0, v1, v2, v3] := by cases args; simp_all
  obtain ⟨a0, rfl, rfl, rfl, w0⟩ := open_int Ybad.underlying22 (hval 0 22 v0 rfl rfl) h0
  obtain ⟨a1, rfl, rfl, rfl, w1⟩ := open_int Ybad.underlying5 (hval 1 5 v1 rfl rfl) h1
  obtain ⟨a2, rfl, rfl, rfl, w2⟩ := open_int Ybad.underlying22 (hval 2 22 v2 rfl rfl) h2
  have o3 := hval 3 23 v3 rfl rfl
  obtain ⟨a3, len3, cap3, rfl⟩ := okWide_slice Ybad.underlying23 o3
  have k3 := h3
  have lt3 : ∀ x ∈ p3, x.block < W.heap.size := by obtain ⟨m, hm⟩ := k3; exact DataW.trod_lt m _ _ _ hm
  obtain ⟨g, t, cs, fuel, d, p', rfl, hg, ht, hvar, hd, rfl⟩ := trodVars_one hV
  obtain rfl := Option.some.inj (gv0.symm.trans hg)
  obtain rfl := Option.some.inj (tv0.symm.trans ht)
  obtain ⟨old, hcs, ho, hx⟩ := held_of_trod_list Ybad.underlying38 hd
  simp only [Prod.mk.injEq] at hx
  obtain ⟨rfl, rfl⟩ := hx
  clear hA0 hV0 hval0
  obtain ⟨zs, hlen, hbyt, hnil, hspot, hcap, hmax, hbytes⟩ : ∃ zs : List Int, zs.length = len3 ∧ Byt W a3 zs ∧ (a3 = none → zs = [] ∧ cap3 = 0) ∧ (∀ ad, a3 = some ad → ad.spot = none) ∧ zs.length ≤ cap3 ∧ cap3 ≤ maxLen ∧ ∀ z ∈ zs, byte z := by
    obtain ⟨fu, hf⟩ := h3
    rcases open_ints Ybad.underlying23 Ybad.underlying5 cells5 hf with ⟨hcs, hx⟩ | ⟨a, len, cap, zs, hcs, _, hl, hm, hzl, hx, hcell, hwf⟩
    · simp [Value.cells] at hcs
      obtain ⟨rfl, rfl, rfl⟩ := hcs
      exact ⟨[], rfl, Or.inl rfl, fun _ => ⟨rfl, rfl⟩, fun _ h => by (cases h), Nat.zero_le _, Nat.zero_le _, fun _ h => by (cases h)⟩
    · simp [Value.cells] at hcs
      obtain ⟨rfl, rfl, rfl⟩ := hcs
      simp only [if_true] at hzl
      have hsp : a.spot = none := by
        have := o3
        simp only [Value.okWide, Ybad.underlying23, Cell.okWide, Cell.ok] at this
        exact this.2.2.2.1
      obtain ⟨b, o, sp⟩ := a
      simp only at hsp
      subst hsp
      refine ⟨zs.take len3, by simp; omega, Or.inr ⟨b, o, rfl, fun i hi => ?_⟩, fun h => by (cases h), fun ad h => by (cases h; rfl), by simp; omega, hm, fun z hz => ?_⟩
      · have hi' : i < len3 := by simp at hi; omega
        have := hcell i (by omega)
        rw [Go.WideShapes.add_plain] at this
        rw [this]
        simp [List.getD_eq_getElem?_getD, hi']
      · have := hwf z (List.mem_of_mem_take hz)
        simp only [Lit.wf, Bool.and_eq_true, decide_eq_true_eq] at this
        have e1 : IntKind.u8.min = 0 := by decide
        have e2 : IntKind.u8.max = 255 := by decide
        exact ⟨by omega, by omega⟩
  subst hlen
  obtain ⟨pe, p6, p4, kE, hZ⟩ := of_laid hL
  refine (law_any a0 a1 a2 a3 pe p6 p4 zs cap3 W hbyt hnil hspot hcap hmax hbytes kE hZ).mono fun e W' ⟨he, bel⟩ => ?_
  subst he
  have hvar' := var?_below bel hg (World.block_lt_of_cell? W _ kE) hvar
  refine ⟨_, rfl, _, _, _, [], _, _, hW', trodAll_mk1 (shut_bool Ybad.underlying4 _), (trodAll_cons_mk (shut_int Ybad.underlying22 w0) (trodAll_cons_mk (shut_int Ybad.underlying5 w1) (trodAll_cons_mk (shut_int Ybad.underlying22 w2)
    (trodAll_cons_mk (Below.trod laidOut (by kernel_rfl) (of_decide_eq_true (by kernel_rfl)) k3 bel lt3) trodAll_mk0)))), trodVars_mk1 (fuel := 1) hg ht hvar' (by rw [hcs]; exact trod_held Ybad.underlying38 ho 0), bel.frame _, fun h => by cases h⟩

theorem over : Rows.lawS6391AWholeRow.holds Ybad.pinned (OpenSpec.ofChange Rows.lawS6391AWholeSpec) :=
  OpenClaim.holds_of_wide 3 Ybad.f3 rfl rfl rfl rfl rfl rfl rfl ⟨rfl, rfl, rfl, rfl, rfl⟩ rfl rfl rfl rfl rfl (by kernel_rfl) Ybad.func3 (by kernel_rfl)
    (of_decide_eq_true (by kernel_rfl)) (by unfold Func.isWrapper; first | (rw [if_pos (by decide +kernel)]; kernel_rfl) | (rw [if_neg (by decide +kernel)]; exact ⟨rfl, rfl⟩))
    (fun os started H enc _ => lifted os started H enc)

/-- THE STATEMENT: the tied card. -/
theorem proved : Rows.LawS6391AWholeCardSaid :=
  Claim7.holds_tied_plain_at .later [] [.data, .data, .data, .sentinel, .called, .called, .zero] true (true, "7ec6082e46fc3eb94f6d1e01b0aea92bde640cb3844c560022613bc86f164c6f") true
    over (fun _ h => by cases h) (by kernel_rfl) (fun _ h => by cases h) lawS6391AWhole_row_tie rfl ⟨rfl, rfl⟩ (by kernel_rfl) rfl
    (fun f fn hf hfn => by
      obtain rfl : f = 3 := Option.some.inj ((show Ybad.prog.funcNamed "example.com/moorline/moorline/pkg/nass.LawS6391AWhole" = some 3 by kernel_rfl).symm.trans hf) |>.symm
      obtain rfl : fn = Ybad.f3 := (Option.some.inj (Ybad.func3.symm.trans hfn)).symm
      exact ⟨by kernel_rfl, fun j t ht => by
        rw [Ybad.params3] at ht
        have hm : t ∈ [22, 5, 22, 23] := by simpa using Array.mem_of_getElem? ht
        have hall : ([22, 5, 22, 23].all fun u => !Ybad.prog.wantsStandIn u) = true := by kernel_rfl
        exact (show Ybad.prog.wantsStandIn t = false by simpa using List.all_eq_true.1 hall t hm)⟩)
    (by kernel_rfl)
#print axioms proved
end Go.Proofs.YbulkebiiDoor.lawS6391AWhole
