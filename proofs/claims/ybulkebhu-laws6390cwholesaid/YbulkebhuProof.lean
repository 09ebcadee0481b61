import Derived.Test.YbulkebhuLaw
import Derived.WalkKit
import Derived.ProofKit
import Derived.OpenShut
import Derived.ShutString
import Derived.ChangeOld
import Derived.Below
import Derived.SizedLaws
import Derived.Deep.Strs
import Derived.Deep.SlicePairs
namespace Go.Proofs.Ybulkebhu.lawS6390CWhole
open Go.ChangeShapes Go.WideShapes Go.ChangeAt Go.RowKit Go.Deep
open Go.ChangeMaps (open_string shut_string)
set_option linter.unusedVariables false

theorem own : ownKnob Yba.prog.godebug = none := by kernel_rfl
theorem laidOut : laidOutB Yba.prog = true := by kernel_rfl
theorem cells9 : Yba.prog.cellsOf 9 = 1 := by kernel_rfl
theorem cells23 : Yba.prog.cellsOf 23 = 1 := by kernel_rfl
theorem cells24 : Yba.prog.cellsOf 24 = 1 := by kernel_rfl
theorem cells26 : Yba.prog.cellsOf 26 = 2 := by kernel_rfl
theorem bytes9 : Yba.prog.bytesOf 9 = 16 := by kernel_rfl
theorem reach_eq : reachBytes = 140737488351232 := rfl

theorem weightsAll_mem {H : Type} {P : Program} {e : TypeId} : ∀ {l : List (DataW H)} {d : DataW H}, d ∈ l → ∀ n ∈ d.weights P e, n ∈ DataW.weightsAll P e l
  | d' :: r, d, hd, n, hn => by
    simp only [DataW.weightsAll, List.mem_append]
    rcases List.mem_cons.1 hd with rfl | h
    · exact Or.inl hn
    · exact Or.inr (weightsAll_mem h n hn)

/-- The form's own reach, of a slice in the second field of a struct in a slice. -/
theorem sized_pair {H : Type} {P : Program} {ts : List TypeId} {ds : List (DataW H)} (h : (DataW.weightsEach P ts ds).all (· ≤ reachBytes) = true) {j : Nat} {t e q : TypeId} {f0 f1 : Field} {elems spare e' sp' : List (DataW H)} {d0 : DataW H}
    (ht : ts[j]? = some t) (hd : ds[j]? = some (.slice elems spare)) (hu : P.underlying t = some (.slice e)) (hu2 : P.underlying e = some (.struct #[f0, f1])) (hu3 : P.underlying f1.type = some (.slice q)) (hx : DataW.agg [d0, DataW.slice e' sp'] ∈ elems) :
    (e'.length + sp'.length) * P.bytesOf q ≤ reachBytes := by
  refine of_decide_eq_true (List.all_eq_true.1 h _ (DataW.weights_mem_each ht hd _ ?_))
  simp only [DataW.weights, hu, List.mem_cons, List.mem_append]
  exact Or.inr (Or.inl (weightsAll_mem hx _ (by simp [DataW.weights, DataW.weightsEach, hu2, hu3])))

/-- A []string in cells, whatever it reads as: its address, its strings. -/
theorem strs_of {H : Type} {enc : TypeId × Value → H} {W : World} {spare : Nat → Bool} {fuel : Nat} {v : Value} {d : DataW H} {ps : List MemPlace} (h : DataW.trod enc Yba.prog W 0 spare true fuel 24 [v] = some (d, ps)) :
    ∃ (a : Option Addr) (ss : List ByteArray) (c : Nat), v = .slice a ss.length c ∧ Lies W a ss ∧ ((d = .nil ∧ ss = []) ∨ ∃ e' sp', d = .slice e' sp' ∧ ss.length ≤ e'.length) := by
  rcases open_strs Yba.underlying24 Yba.underlying9 cells9 h with ⟨hcs, hx⟩ | ⟨a, len, cap, m, Sx, hcs, _, hl, hm, hmm, hx, hcell⟩
  · simp at hcs
    simp only [Prod.mk.injEq] at hx
    exact ⟨none, [], 0, by simpa using hcs, Or.inl rfl, Or.inl ⟨hx.1, rfl⟩⟩
  · simp at hcs
    simp only [Prod.mk.injEq] at hx
    have hlm : len ≤ m := by rw [hmm]; split <;> omega
    refine ⟨some a, (List.range len).map Sx, cap, by simpa using hcs, ?_, Or.inr ⟨_, _, hx.1, by simp⟩⟩
    rcases Nat.eq_zero_or_pos len with h0 | hp
    · subst h0; exact Or.inl rfl
    · obtain ⟨b, o, sp⟩ := a
      have hsp : sp = none := by simpa [Addr.add] using World.cell?_spot (hcell 0 (by omega)).1
      subst hsp
      refine Or.inr ⟨b, o, rfl, fun i hi => ?_⟩
      have hi' : i < len := by simpa using hi
      have := (hcell i (by omega)).1
      rw [add_plain] at this
      rw [this]
      simp [hi']

set_option maxHeartbeats 1000000 in
set_option maxRecDepth 100000 in
theorem lifted (os : Os) (started : os.Started) (H : Type) (enc : TypeId × Value → H) :
    ReturnsInHanded {} Yba.checked os 3 .any (Rows.lawS6390CWholeSpec.pre6 enc Yba.prog Yba.f3 Rows.lawS6390CWholeRow.domain false) (Rows.lawS6390CWholeSpec.post enc Yba.prog Yba.f3 false true false false) := by
  refine returnsInHanded_of_change_sized (C := Yba.checked) own started (by kernel_rfl) Yba.func3
    (ChangeSpec.witness6 (enc := enc) (C := Yba.checked) false ⟨#[], #[.slice none 0 0, .int .u64 0, .string ByteArray.empty, .string ByteArray.empty, .int .u8 0, .slice none 0 0, .bool false], []⟩ 8 (by kernel_rfl) (by kernel_rfl) (by kernel_rfl) (by kernel_rfl)) ?_
  intro W base args ds gs before hval0 hW hcnd hsz0 _
  have hsz : (DataW.weightsEach Yba.prog (Yba.f3.params.toList ++ Rows.lawS6390CWholeSpec.plain.varTypes Yba.prog) (ds ++ gs)).all (· ≤ reachBytes) = true := hsz0
  have hval : ∀ (j : Nat) t v, Yba.f3.params[j]? = some t → args[j]? = some v → Value.okWide Yba.prog W .any base t v := hval0
  have hW' := hW
  obtain ⟨p, q, hA0, hV, rfl, hfz, hnd⟩ := hW
  have hA : DataW.TrodAll enc Yba.prog W 0 (fun _ => true) true Yba.f3.params.toList args.toList ds p := hA0
  rw [Yba.params3] at hA hval hsz
  obtain ⟨v0, vs0, d0, ds0, p0, q0, hargs, rfl, rfl, h0, r0⟩ := trodAll_cons hA
  obtain ⟨v1, vs1, d1, ds1, p1, q1, rfl, rfl, rfl, h1, r1⟩ := trodAll_cons r0
  obtain ⟨v2, vs2, d2, ds2, p2, q2, rfl, rfl, rfl, h2, r2⟩ := trodAll_cons r1
  obtain ⟨v3, vs3, d3, ds3, p3, q3, rfl, rfl, rfl, h3, r3⟩ := trodAll_cons r2
  obtain ⟨v4, vs4, d4, ds4, p4, q4, rfl, rfl, rfl, h4, r4⟩ := trodAll_cons r3
  obtain ⟨v5, vs5, d5, ds5, p5, q5, rfl, rfl, rfl, h5, r5⟩ := trodAll_cons r4
  obtain ⟨v6, vs6, d6, ds6, p6, q6, rfl, rfl, rfl, h6, r6⟩ := trodAll_cons r5
  obtain ⟨rfl, rfl, rfl⟩ := trodAll_nil r6
  obtain rfl : args = #[v0, v1, v2, v3, v4, v5, v6] := by cases args; simp_all
  obtain ⟨rfl, rfl⟩ := trodVars_none hV
  obtain ⟨a0, len0, cap0, rfl⟩ := okWide_slice Yba.underlying22 (hval 0 22 v0 rfl rfl)
  have k0 := h0
  have lt0 : ∀ x ∈ p0, x.block < W.heap.size := by obtain ⟨m, hm⟩ := k0; exact DataW.trod_lt m _ _ _ hm
  obtain ⟨a1, rfl, rfl, rfl, w1⟩ := open_int Yba.underlying23 (hval 1 23 v1 rfl rfl) h1
  obtain ⟨a2, rfl, rfl, rfl, w2⟩ := open_string Yba.underlying9 (hval 2 9 v2 rfl rfl) h2
  obtain ⟨a3, rfl, rfl, rfl, w3⟩ := open_string Yba.underlying9 (hval 3 9 v3 rfl rfl) h3
  obtain ⟨a4, rfl, rfl, rfl, w4⟩ := open_int Yba.underlying5 (hval 4 5 v4 rfl rfl) h4
  obtain ⟨a5, len5, cap5, rfl⟩ := okWide_slice Yba.underlying24 (hval 5 24 v5 rfl rfl)
  have k5 := h5
  have lt5 : ∀ x ∈ p5, x.block < W.heap.size := by obtain ⟨m, hm⟩ := k5; exact DataW.trod_lt m _ _ _ hm
  obtain ⟨a6, rfl, rfl, rfl⟩ := open_bool Yba.underlying4 (hval 6 4 v6 rfl rfl) h6
  clear hA0 hval0
  -- the list 'down'
  obtain ⟨dss, hdlen, hdl, hdsz⟩ : ∃ dss : List ByteArray, dss.length = len5 ∧ Lies W a5 dss ∧ dss.length * 16 ≤ 140737488351232 := by
    obtain ⟨fuel, hf⟩ := h5
    obtain ⟨a, ss, c, hv, hl, hd⟩ := strs_of (by simpa [Value.cells] using hf)
    simp at hv
    obtain ⟨rfl, rfl, rfl⟩ := hv
    refine ⟨ss, rfl, hl, ?_⟩
    rcases hd with ⟨_, rfl⟩ | ⟨e', sp', rfl, hle⟩
    · simp
    · have := sized_slice hsz (j := 5) (t := 24) (e := 9) rfl rfl Yba.underlying24
      rw [bytes9, reach_eq] at this
      omega
  subst hdlen
  -- the memberships
  obtain ⟨bm, om, I, A, S, C, hmem, hlen⟩ : ∃ (bm om : Nat) (I : Nat → Int) (A : Nat → Option Addr) (S : Nat → List ByteArray) (C : Nat → Nat),
      (∀ i, i < len0 → a0 = some ⟨bm, om, none⟩ ∧ W.cell? ⟨bm, om + i * 2, none⟩ = some (.int .u64 (I i)) ∧ W.cell? ⟨bm, om + i * 2 + 1, none⟩ = some (.slice (A i) (S i).length (C i)) ∧ Lies W (A i) (S i) ∧ (S i).length * 16 ≤ 140737488351232) ∧ len0 ≤ maxLen := by
    obtain ⟨fuel, hf⟩ := h0
    rcases open_slice_pairs Yba.underlying22 Yba.underlying26 cells26 rfl rfl cells23 cells24 hf with ⟨hcs, hx⟩ | ⟨a, len, cap, m, n, V0, V1, D0, D1, P0, P1, hcs, _, hl, hm, hmm, hx, hall⟩
    · simp [Value.cells] at hcs
      obtain ⟨rfl, rfl, rfl⟩ := hcs
      exact ⟨0, 0, fun _ => 0, fun _ => none, fun _ => [], fun _ => 0, fun i hi => absurd hi (Nat.not_lt_zero _), Nat.zero_le _⟩
    · simp [Value.cells] at hcs
      obtain ⟨rfl, rfl, rfl⟩ := hcs
      simp only [Prod.mk.injEq] at hx
      obtain ⟨hd0, _⟩ := hx
      have hlm : len0 ≤ m := by rw [hmm]; split <;> omega
      obtain ⟨b, o, sp⟩ := a
      rcases Nat.eq_zero_or_pos len0 with h0' | hp
      · subst h0'
        exact ⟨0, 0, fun _ => 0, fun _ => none, fun _ => [], fun _ => 0, fun i hi => absurd hi (Nat.not_lt_zero _), Nat.zero_le _⟩
      · have hsp : sp = none := by simpa [Addr.add] using World.cell?_spot (hall 0 (by omega)).1
        subst hsp
        obtain ⟨f, hf'⟩ := choose_lt (α := Int × Option Addr × List ByteArray × Nat) (n := len0)
          (p := fun i x => W.cell? ⟨b, o + i * 2, none⟩ = some (.int .u64 x.1) ∧ W.cell? ⟨b, o + i * 2 + 1, none⟩ = some (.slice x.2.1 x.2.2.1.length x.2.2.2) ∧ Lies W x.2.1 x.2.2.1 ∧ x.2.2.1.length * 16 ≤ 140737488351232) (fun i hi => by
            obtain ⟨e0, e1, t0, t1⟩ := hall i (by omega)
            rw [add_plain] at e0 e1
            obtain ⟨z, hz, _, _⟩ := DataW.trod_int Yba.underlying23 t0
            simp at hz
            obtain ⟨a', ss, c, hv, hl', hd⟩ := strs_of t1
            refine ⟨(z, a', ss, c), by rw [e0, hz], by rw [← Nat.add_assoc] at e1; rw [e1, hv], hl', ?_⟩
            rcases hd with ⟨_, rfl⟩ | ⟨e', sp', hd1, hle⟩
            · simp
            · subst hd0
              have := sized_pair hsz (j := 0) (t := 22) (e := 26) (q := 9) (e' := e') (sp' := sp') (d0 := D0 i) rfl rfl Yba.underlying22 Yba.underlying26 Yba.underlying24 (List.mem_map.2 ⟨i, List.mem_range.2 hi, by rw [hd1]⟩)
              rw [bytes9, reach_eq] at this
              show ss.length * 16 ≤ _
              omega)
        exact ⟨b, o, fun i => (f i).1, fun i => (f i).2.1, fun i => (f i).2.2.1, fun i => (f i).2.2.2, fun i hi => ⟨rfl, hf' i hi⟩, by omega⟩
  refine (law_walk a0 bm om len0 cap0 a1 a2 a3 a4 a5 dss cap5 a6 W I A S C hmem hlen hdl hdsz).mono fun e W' ⟨he, bel⟩ => ?_
  subst he
  exact ⟨_, rfl, _, _, _, [], _, [], hW', trodAll_mk1 (shut_bool Yba.underlying4 _), (trodAll_cons_mk (Below.trod laidOut (by kernel_rfl) (of_decide_eq_true (by kernel_rfl)) k0 bel lt0) (trodAll_cons_mk (shut_int Yba.underlying23 w1) (trodAll_cons_mk (shut_string Yba.underlying9 w2) (trodAll_cons_mk (shut_string Yba.underlying9 w3) (trodAll_cons_mk (shut_int Yba.underlying5 w4)
    (trodAll_cons_mk (Below.trod laidOut (by kernel_rfl) (of_decide_eq_true (by kernel_rfl)) k5 bel lt5) (trodAll_cons_mk (shut_bool Yba.underlying4 _) trodAll_mk0))))))), rfl, bel.frame _, fun h => by cases h⟩

theorem over : Rows.lawS6390CWholeRow.holds Yba.pinned (OpenSpec.ofChange Rows.lawS6390CWholeSpec) :=
  OpenClaim.holds_of_wide 3 Yba.f3 rfl rfl rfl rfl rfl rfl rfl ⟨rfl, rfl, rfl, rfl, rfl⟩ rfl rfl rfl rfl rfl (by kernel_rfl) Yba.func3 (by kernel_rfl)
    (of_decide_eq_true (by kernel_rfl)) (by unfold Func.isWrapper; first | (rw [if_pos (by decide +kernel)]; kernel_rfl) | (rw [if_neg (by decide +kernel)]; exact ⟨rfl, rfl⟩))
    (fun os started H enc _ => lifted os started H enc)

/-- THE STATEMENT -/
theorem proved : Rows.LawS6390CWholeSaid :=
  over
#print axioms proved
end Go.Proofs.Ybulkebhu.lawS6390CWhole
