import Derived.Test.YbulkebiwLawB
import Derived.WalkKit
import Derived.ProofKit
import Derived.OpenShut
import Derived.ChangeOld
import Derived.ChangeSlices
import Derived.Below
import Derived.Deep.Slices
namespace Go.Proofs.Ybulkebiw.lawS6392BWhole
open Go.ChangeShapes Go.WideShapes Go.ChangeAt Go.RowKit Go.Deep
set_option linter.unusedVariables false

theorem own : ownKnob Yba.prog.godebug = none := by kernel_rfl
theorem laidOut : laidOutB Yba.prog = true := by kernel_rfl
theorem cells9 : Yba.prog.cellsOf 9 = 1 := by kernel_rfl
theorem cells2 : Yba.prog.cellsOf 2 = 1 := by kernel_rfl
theorem cells3 : Yba.prog.cellsOf 3 = 1 := by kernel_rfl
theorem cells4 : Yba.prog.cellsOf 4 = 1 := by kernel_rfl
theorem cells5 : Yba.prog.cellsOf 5 = 1 := by kernel_rfl
theorem cells66 : Yba.prog.cellsOf 66 = 10 := by kernel_rfl

set_option maxRecDepth 100000 in
set_option maxHeartbeats 2000000 in
/-- A record as it is read: its ten cells. -/
theorem rec_of {H : Type} {enc : TypeId × Value → H} {W : World} {sp : Nat → Bool} {fuel : Nat} {cs : List Value} {y : DataW H × List MemPlace} (h : DataW.trod enc Yba.prog W 0 sp true fuel 66 cs = some y) :
    ∃ (x0 : ByteArray) (x1 : Int) (x2 : Bool) (x3 : ByteArray) (x4 : Bool) (x5 : Int) (x6 : ByteArray) (x7 : ByteArray) (x8 : Int) (x9 : Bool), cs = [.string x0, .int .i64 x1, .bool x2, .string x3, .bool x4, .int .u8 x5, .string x6, .string x7, .int .i64 x8, .bool x9] ∧ (Lit.int .i64 x1).wf = true ∧ (Lit.int .i64 x8).wf = true ∧ (Lit.int .u8 x5).wf = true := by
  obtain ⟨xs, n, _, _, hl, hn, hf⟩ := DataW.trod_struct Yba.underlying66 h
  rw [cells66] at hl
  have hn' : xs.length = 10 := hn
  match cs, hl with
  | [c0, c1, c2, c3, c4, c5, c6, c7, c8, c9], _ =>
    obtain ⟨y0, hy0⟩ : ∃ y, xs[0]? = some y := ⟨xs[0], List.getElem?_eq_getElem (by omega)⟩
    have e0 : DataW.trod enc Yba.prog W 0 sp true n 9 (([c0, c1, c2, c3, c4, c5, c6, c7, c8, c9] : List Value).drop 0 |>.take (Yba.prog.cellsOf 9)) = xs[0]? := hf 0 _ rfl
    rw [hy0, cells9] at e0
    have f0 : DataW.trod enc Yba.prog W 0 sp true n 9 [c0] = some y0 := e0
    clear e0
    obtain ⟨x0, e0, _, _⟩ := DataW.trod_string Yba.underlying9 f0
    obtain ⟨y1, hy1⟩ : ∃ y, xs[1]? = some y := ⟨xs[1], List.getElem?_eq_getElem (by omega)⟩
    have e1 : DataW.trod enc Yba.prog W 0 sp true n 2 (([c0, c1, c2, c3, c4, c5, c6, c7, c8, c9] : List Value).drop 1 |>.take (Yba.prog.cellsOf 2)) = xs[1]? := hf 1 _ rfl
    rw [hy1, cells2] at e1
    have f1 : DataW.trod enc Yba.prog W 0 sp true n 2 [c1] = some y1 := e1
    clear e1
    obtain ⟨x1, e1, _, w1⟩ := DataW.trod_int Yba.underlying2 f1
    obtain ⟨y2, hy2⟩ : ∃ y, xs[2]? = some y := ⟨xs[2], List.getElem?_eq_getElem (by omega)⟩
    have e2 : DataW.trod enc Yba.prog W 0 sp true n 4 (([c0, c1, c2, c3, c4, c5, c6, c7, c8, c9] : List Value).drop 2 |>.take (Yba.prog.cellsOf 4)) = xs[2]? := hf 2 _ rfl
    rw [hy2, cells4] at e2
    have f2 : DataW.trod enc Yba.prog W 0 sp true n 4 [c2] = some y2 := e2
    clear e2
    obtain ⟨x2, e2, _⟩ := DataW.trod_bool Yba.underlying4 f2
    obtain ⟨y3, hy3⟩ : ∃ y, xs[3]? = some y := ⟨xs[3], List.getElem?_eq_getElem (by omega)⟩
    have e3 : DataW.trod enc Yba.prog W 0 sp true n 9 (([c0, c1, c2, c3, c4, c5, c6, c7, c8, c9] : List Value).drop 3 |>.take (Yba.prog.cellsOf 9)) = xs[3]? := hf 3 _ rfl
    rw [hy3, cells9] at e3
    have f3 : DataW.trod enc Yba.prog W 0 sp true n 9 [c3] = some y3 := e3
    clear e3
    obtain ⟨x3, e3, _, _⟩ := DataW.trod_string Yba.underlying9 f3
    obtain ⟨y4, hy4⟩ : ∃ y, xs[4]? = some y := ⟨xs[4], List.getElem?_eq_getElem (by omega)⟩
    have e4 : DataW.trod enc Yba.prog W 0 sp true n 4 (([c0, c1, c2, c3, c4, c5, c6, c7, c8, c9] : List Value).drop 4 |>.take (Yba.prog.cellsOf 4)) = xs[4]? := hf 4 _ rfl
    rw [hy4, cells4] at e4
    have f4 : DataW.trod enc Yba.prog W 0 sp true n 4 [c4] = some y4 := e4
    clear e4
    obtain ⟨x4, e4, _⟩ := DataW.trod_bool Yba.underlying4 f4
    obtain ⟨y5, hy5⟩ : ∃ y, xs[5]? = some y := ⟨xs[5], List.getElem?_eq_getElem (by omega)⟩
    have e5 : DataW.trod enc Yba.prog W 0 sp true n 5 (([c0, c1, c2, c3, c4, c5, c6, c7, c8, c9] : List Value).drop 5 |>.take (Yba.prog.cellsOf 5)) = xs[5]? := hf 5 _ rfl
    rw [hy5, cells5] at e5
    have f5 : DataW.trod enc Yba.prog W 0 sp true n 5 [c5] = some y5 := e5
    clear e5
    obtain ⟨x5, e5, _, w5⟩ := DataW.trod_int Yba.underlying5 f5
    obtain ⟨y6, hy6⟩ : ∃ y, xs[6]? = some y := ⟨xs[6], List.getElem?_eq_getElem (by omega)⟩
    have e6 : DataW.trod enc Yba.prog W 0 sp true n 9 (([c0, c1, c2, c3, c4, c5, c6, c7, c8, c9] : List Value).drop 6 |>.take (Yba.prog.cellsOf 9)) = xs[6]? := hf 6 _ rfl
    rw [hy6, cells9] at e6
    have f6 : DataW.trod enc Yba.prog W 0 sp true n 9 [c6] = some y6 := e6
    clear e6
    obtain ⟨x6, e6, _, _⟩ := DataW.trod_string Yba.underlying9 f6
    obtain ⟨y7, hy7⟩ : ∃ y, xs[7]? = some y := ⟨xs[7], List.getElem?_eq_getElem (by omega)⟩
    have e7 : DataW.trod enc Yba.prog W 0 sp true n 9 (([c0, c1, c2, c3, c4, c5, c6, c7, c8, c9] : List Value).drop 7 |>.take (Yba.prog.cellsOf 9)) = xs[7]? := hf 7 _ rfl
    rw [hy7, cells9] at e7
    have f7 : DataW.trod enc Yba.prog W 0 sp true n 9 [c7] = some y7 := e7
    clear e7
    obtain ⟨x7, e7, _, _⟩ := DataW.trod_string Yba.underlying9 f7
    obtain ⟨y8, hy8⟩ : ∃ y, xs[8]? = some y := ⟨xs[8], List.getElem?_eq_getElem (by omega)⟩
    have e8 : DataW.trod enc Yba.prog W 0 sp true n 2 (([c0, c1, c2, c3, c4, c5, c6, c7, c8, c9] : List Value).drop 8 |>.take (Yba.prog.cellsOf 2)) = xs[8]? := hf 8 _ rfl
    rw [hy8, cells2] at e8
    have f8 : DataW.trod enc Yba.prog W 0 sp true n 2 [c8] = some y8 := e8
    clear e8
    obtain ⟨x8, e8, _, w8⟩ := DataW.trod_int Yba.underlying2 f8
    obtain ⟨y9, hy9⟩ : ∃ y, xs[9]? = some y := ⟨xs[9], List.getElem?_eq_getElem (by omega)⟩
    have e9 : DataW.trod enc Yba.prog W 0 sp true n 4 (([c0, c1, c2, c3, c4, c5, c6, c7, c8, c9] : List Value).drop 9 |>.take (Yba.prog.cellsOf 4)) = xs[9]? := hf 9 _ rfl
    rw [hy9, cells4] at e9
    have f9 : DataW.trod enc Yba.prog W 0 sp true n 4 [c9] = some y9 := e9
    clear e9
    obtain ⟨x9, e9, _⟩ := DataW.trod_bool Yba.underlying4 f9
    simp only [List.cons.injEq, and_true] at e0 e1 e2 e3 e4 e5 e6 e7 e8 e9
    refine ⟨x0, x1, x2, x3, x4, x5, x6, x7, x8, x9, ?_, w1, w8, w5⟩
    rw [e0, e1, e2, e3, e4, e5, e6, e7, e8, e9]

set_option maxHeartbeats 1000000 in
set_option maxRecDepth 100000 in
theorem lifted (os : Os) (started : os.Started) (H : Type) (enc : TypeId × Value → H) :
    ReturnsInHanded {} Yba.checked os 4 .any (Rows.lawS6392BWholeSpec.pre6 enc Yba.prog Yba.f4 Rows.lawS6392BWholeRow.domain false) (Rows.lawS6392BWholeSpec.post enc Yba.prog Yba.f4 false true false false) := by
  refine returnsInHanded_of_change (C := Yba.checked) own started (by kernel_rfl) Yba.func4
    (ChangeSpec.witness6 (enc := enc) (C := Yba.checked) false ⟨#[], #[.slice none 0 0, .slice none 0 0, .int .u64 0], []⟩ 8 (by kernel_rfl) (by kernel_rfl) (by kernel_rfl) (by kernel_rfl)) ?_
  intro W base args ds gs before hval0 hW hcnd _
  have hval : ∀ (j : Nat) t v, Yba.f4.params[j]? = some t → args[j]? = some v → Value.okWide Yba.prog W .any base t v := hval0
  have hW' := hW
  obtain ⟨p, q, hA0, hV, rfl, hfz, hnd⟩ := hW
  have hA : DataW.TrodAll enc Yba.prog W 0 (fun _ => true) true Yba.f4.params.toList args.toList ds p := hA0
  rw [Yba.params4] at hA hval
  obtain ⟨v0, vs0, d0, ds0, p0, q0, hargs, rfl, rfl, h0, r0⟩ := trodAll_cons hA
  obtain ⟨v1, vs1, d1, ds1, p1, q1, rfl, rfl, rfl, h1, r1⟩ := trodAll_cons r0
  obtain ⟨v2, vs2, d2, ds2, p2, q2, rfl, rfl, rfl, h2, r2⟩ := trodAll_cons r1
  obtain ⟨rfl, rfl, rfl⟩ := trodAll_nil r2
  obtain rfl : args = #[v0, v1, v2] := by cases args; simp_all
  obtain ⟨rfl, rfl⟩ := trodVars_none hV
  obtain ⟨a0, len0, cap0, rfl⟩ := okWide_slice Yba.underlying61 (hval 0 61 v0 rfl rfl)
  have k0 := h0
  have lt0 : ∀ x ∈ p0, x.block < W.heap.size := by obtain ⟨m, hm⟩ := k0; exact DataW.trod_lt m _ _ _ hm
  obtain ⟨a1, len1, cap1, rfl⟩ := okWide_slice Yba.underlying62 (hval 1 62 v1 rfl rfl)
  have k1 := h1
  have lt1 : ∀ x ∈ p1, x.block < W.heap.size := by obtain ⟨m, hm⟩ := k1; exact DataW.trod_lt m _ _ _ hm
  obtain ⟨a2, rfl, rfl, rfl, w2⟩ := open_int Yba.underlying53 (hval 2 53 v2 rfl rfl) h2
  clear hA0 hval0
  have m64 : IntKind.i64.min = -9223372036854775808 := by decide
  have M64 : IntKind.i64.max = 9223372036854775807 := by decide
  have m8 : IntKind.u8.min = 0 := by decide
  have mu : IntKind.u64.min = 0 := by decide
  have hiv : 0 ≤ a2 := by
    simp only [Lit.wf, Bool.and_eq_true, decide_eq_true_eq] at w2
    omega
  -- the parents
  obtain ⟨qb, qo, R, hrm, hra, hR, hR2⟩ : ∃ (qb qo : Nat) (R : Nat → Int), len1 ≤ maxLen ∧ (0 < len1 → a1 = some ⟨qb, qo, none⟩) ∧ (∀ i, i < len1 → W.cell? ⟨qb, qo + i, none⟩ = some (.int .i64 (R i))) ∧ ∀ i, i < len1 → R i ≤ 9223372036854775807 := by
    obtain ⟨fu, hf⟩ := h1
    rcases open_ints Yba.underlying62 Yba.underlying3 cells3 hf with ⟨hcs, hx⟩ | ⟨a, len, cap, zs, hcs, _, hl, hm, hzl, hx, hcell, hwf⟩
    · simp [Value.cells] at hcs
      obtain ⟨rfl, rfl, rfl⟩ := hcs
      exact ⟨0, 0, fun _ => 0, Nat.zero_le _, fun h => absurd h (Nat.lt_irrefl _), fun i hi => absurd hi (Nat.not_lt_zero _), fun i hi => absurd hi (Nat.not_lt_zero _)⟩
    · simp [Value.cells] at hcs
      obtain ⟨rfl, rfl, rfl⟩ := hcs
      simp only [if_true] at hzl
      obtain ⟨b, o, sp⟩ := a
      have hsp : 0 < len1 → sp = none := fun h => by simpa [Addr.add] using World.cell?_spot (hcell 0 (by omega))
      refine ⟨b, o, fun i => zs.getD i 0, by omega, fun h => by rw [hsp h], fun i hi => ?_, fun i hi => ?_⟩
      · obtain rfl := hsp (by omega)
        have := hcell i (by omega)
        rw [Go.WideShapes.add_plain] at this
        exact this
      · have hi' : i < zs.length := by omega
        have := hwf (zs.getD i 0) (by simp [List.getD_eq_getElem?_getD, hi'])
        simp only [Lit.wf, Bool.and_eq_true, decide_eq_true_eq] at this
        show zs.getD i 0 ≤ _
        omega
  -- the records
  obtain ⟨rb, ro, D, hnm, ha, hin, hok⟩ : ∃ (rb ro : Nat) (D : Dat), len0 ≤ maxLen ∧ (0 < len0 → a0 = some ⟨rb, ro, none⟩) ∧ In W rb ro len0 D ∧ Ok len0 D := by
    obtain ⟨fu, hf⟩ := h0
    rcases open_slice Yba.underlying61 hf with ⟨hcs, _⟩ | ⟨a, len, cap, m, n, Dd, Pl, hcs, _, hl, hm, hmm, _, hall⟩
    · simp [Value.cells] at hcs
      obtain ⟨rfl, rfl, rfl⟩ := hcs
      exact ⟨0, 0, ⟨fun _ => ByteArray.empty, fun _ => 0, fun _ => false, fun _ => ByteArray.empty, fun _ => false, fun _ => 0, fun _ => ByteArray.empty, fun _ => ByteArray.empty, fun _ => 0, fun _ => false⟩, Nat.zero_le _, fun h => absurd h (Nat.lt_irrefl _), fun i hi => absurd hi (Nat.not_lt_zero _), fun i hi => absurd hi (Nat.not_lt_zero _)⟩
    · simp [Value.cells] at hcs
      obtain ⟨rfl, rfl, rfl⟩ := hcs
      simp only [if_true] at hmm
      obtain ⟨b, o, sp⟩ := a
      have hcell : ∀ i, i < len0 → ∃ cs', (∀ j, j < 10 → W.cell? ((⟨b, o, sp⟩ : Addr).add (i * 10) |>.add j) = cs'[j]?) ∧ ∃ y, DataW.trod enc Yba.prog W 0 (fun _ => true) true n 66 cs' = some y := fun i hi => by
        obtain ⟨cs', h1, h2⟩ := hall i (by omega)
        rw [cells66] at h1
        exact ⟨cs', (World.cells?_some h1).2.2, _, h2⟩
      have hsp : 0 < len0 → sp = none := fun h => by
        obtain ⟨cs', hc, y, hy⟩ := hcell 0 h
        obtain ⟨x0, x1, x2, x3, x4, x5, x6, x7, x8, x9, rfl, _⟩ := rec_of hy
        have := hc 0 (by omega)
        simpa [Addr.add] using World.cell?_spot (this.trans rfl)
      obtain ⟨f, hf'⟩ := choose_lt (α := ByteArray × Int × Bool × ByteArray × Bool × Int × ByteArray × ByteArray × Int × Bool) (n := len0) (p := fun i x => (∀ j, j < 10 → W.cell? ((⟨b, o, sp⟩ : Addr).add (i * 10) |>.add j) = ([.string x.1, .int .i64 x.2.1, .bool x.2.2.1, .string x.2.2.2.1, .bool x.2.2.2.2.1, .int .u8 x.2.2.2.2.2.1, .string x.2.2.2.2.2.2.1, .string x.2.2.2.2.2.2.2.1, .int .i64 x.2.2.2.2.2.2.2.2.1, .bool x.2.2.2.2.2.2.2.2.2] : List Value)[j]?) ∧ (Lit.int .i64 x.2.1).wf = true ∧ (Lit.int .i64 x.2.2.2.2.2.2.2.2.1).wf = true ∧ (Lit.int .u8 x.2.2.2.2.2.1).wf = true) (fun i hi => by
        obtain ⟨cs', hc, y, hy⟩ := hcell i hi
        obtain ⟨x0, x1, x2, x3, x4, x5, x6, x7, x8, x9, rfl, w1, w8, w5⟩ := rec_of hy
        exact ⟨(x0, x1, x2, x3, x4, x5, x6, x7, x8, x9), hc, w1, w8, w5⟩)
      refine ⟨b, o, ⟨fun i => (f i).1, fun i => (f i).2.1, fun i => (f i).2.2.1, fun i => (f i).2.2.2.1, fun i => (f i).2.2.2.2.1, fun i => (f i).2.2.2.2.2.1, fun i => (f i).2.2.2.2.2.2.1, fun i => (f i).2.2.2.2.2.2.2.1, fun i => (f i).2.2.2.2.2.2.2.2.1, fun i => (f i).2.2.2.2.2.2.2.2.2⟩, by omega, fun h => by rw [hsp h], fun i hi j v hv => ?_, fun i hi => ?_⟩
      · obtain rfl := hsp (by omega)
        have hj : j < 10 := by
          have := (List.getElem?_eq_some_iff.1 hv).1
          simpa [recCells] using this
        have := (hf' i hi).1 j hj
        rw [Go.WideShapes.add_plain, Go.WideShapes.add_plain] at this
        exact this.trans hv
      · obtain ⟨_, w1, w8, w5⟩ := hf' i hi
        simp only [Lit.wf, Bool.and_eq_true, decide_eq_true_eq] at w1 w8 w5
        rw [m64, M64] at w1 w8
        rw [m8] at w5
        exact ⟨w1, w8, w5.1⟩
  refine (lawB_any a2 a0 a1 len0 rb ro cap0 len1 cap1 qb qo R D W hiv hnm hrm ha hin hok hra hR hR2).mono fun e W' ⟨he, bel⟩ => ?_
  subst he
  exact ⟨_, rfl, _, _, _, [], _, [], hW', trodAll_mk1 (shut_bool Yba.underlying4 _), (trodAll_cons_mk (Below.trod laidOut (by kernel_rfl) (of_decide_eq_true (by kernel_rfl)) k0 bel lt0) (trodAll_cons_mk (Below.trod laidOut (by kernel_rfl) (of_decide_eq_true (by kernel_rfl)) k1 bel lt1) (trodAll_cons_mk (shut_int Yba.underlying53 w2) trodAll_mk0))), rfl, bel.frame _, fun h => by cases h⟩

theorem over : Rows.lawS6392BWholeRow.holds Yba.pinned (OpenSpec.ofChange Rows.lawS6392BWholeSpec) :=
  OpenClaim.holds_of_wide 4 Yba.f4 rfl rfl rfl rfl rfl rfl rfl ⟨rfl, rfl, rfl, rfl, rfl⟩ rfl rfl rfl rfl rfl (by kernel_rfl) Yba.func4 (by kernel_rfl)
    (of_decide_eq_true (by kernel_rfl)) (by unfold Func.isWrapper; first | (rw [if_pos (by decide +kernel)]; kernel_rfl) | (rw [if_neg (by decide +kernel)]; exact ⟨rfl, rfl⟩))
    (fun os started H enc _ => lifted os started H enc)

/-- THE STATEMENT -/
theorem proved : Rows.LawS6392BWholeSaid :=
  over
#print axioms proved
end Go.Proofs.Ybulkebiw.lawS6392BWhole
