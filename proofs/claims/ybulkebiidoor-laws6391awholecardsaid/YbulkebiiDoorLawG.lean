import Derived.Test.YbulkebiiDoorLawT
namespace Go.Proofs.YbulkebiiDoor
open Go.RowKit
set_option linter.unusedVariables false

theorem same_ints (d n : Nat) (w : World) (t e : TypeId) (ht : Ybad.prog.underlying t = some (.array n e)) (he : Ybad.prog.underlying e = some (.int .u8)) (hsz : ∀ w, (sizeOf e).run Ybad.prog w = .ok 1 w) (xs : List Int) (hx : xs.length = n) :
    (Op.equalIn (d + 2) t (.agg (xs.map (Value.int .u8)).toArray) (.agg (xs.map (Value.int .u8)).toArray)).run Ybad.prog w = .ok true w := by
  rw [Op.equalIn]
  simp only [Sem.run_bind, run_underlying ht, Result.andThen_ok, hsz, Std.Legacy.Range.forIn_eq_forIn_range', Std.Legacy.Range.size, Nat.sub_zero, Nat.add_sub_cancel, Nat.div_one]
  have hl : ∀ i ∈ List.range' 0 n 1, i < n := fun i hi => by simpa using (List.mem_range'_1.1 hi).2
  generalize List.range' 0 n 1 = l at hl ⊢
  induction l with
  | nil => simp
  | cons i l ih =>
    have hi : i < n := hl i (by simp)
    have px : (part e (xs.map (Value.int .u8)).toArray (i * 1)).run Ybad.prog w = .ok (.int .u8 (xs.getD i 0)) w := by
      simp [part, isAgg, run_underlying he, List.getD, List.getElem?_eq_getElem (show i < xs.length by omega)]
    have pe : (Op.equalIn (d + 1) e (.int .u8 (xs.getD i 0)) (.int .u8 (xs.getD i 0))).run Ybad.prog w = .ok true w := by
      rw [run_equalIn_int w d e .u8 .u8 _ _ he]
      simp
    simp only [List.forIn_cons, Sem.run_bind, px, pe, Result.andThen_ok]
    simp only [Bool.not_true, Bool.false_eq_true, if_false, Sem.run_pure, Result.andThen_ok]
    exact ih fun j hj => hl j (by simp [hj])

theorem Ybad.sameArr (x0 x1 x2 x3 x4 x5 x6 x7 x8 x9 x10 x11 x12 x13 x14 x15 : Int) (w : World) : (Op.equalIn 10000 42 (.agg #[.int .u8 x0, .int .u8 x1, .int .u8 x2, .int .u8 x3, .int .u8 x4, .int .u8 x5, .int .u8 x6, .int .u8 x7, .int .u8 x8, .int .u8 x9, .int .u8 x10, .int .u8 x11, .int .u8 x12, .int .u8 x13, .int .u8 x14, .int .u8 x15]) (.agg #[.int .u8 x0, .int .u8 x1, .int .u8 x2, .int .u8 x3, .int .u8 x4, .int .u8 x5, .int .u8 x6, .int .u8 x7, .int .u8 x8, .int .u8 x9, .int .u8 x10, .int .u8 x11, .int .u8 x12, .int .u8 x13, .int .u8 x14, .int .u8 x15])).run Ybad.prog w = .ok true w :=
  same_ints 9998 16 w 42 5 Ybad.underlying42 Ybad.underlying5 (fun w => by obtain ⟨j, hj, hs⟩ := Option.map_eq_some_iff.1 Ybad.size5; simp [sizeOf, typeInfo, hj, hs]) [x0, x1, x2, x3, x4, x5, x6, x7, x8, x9, x10, x11, x12, x13, x14, x15] rfl
attribute [local go_sem] Ybad.sameArr

theorem as16_be (x0 x1 x2 x3 x4 x5 x6 x7 x8 x9 x10 x11 x12 x13 x14 x15 : Int) (p : Option Addr) (w : World) (b0 : byte x0) (b1 : byte x1) (b2 : byte x2) (b3 : byte x3) (b4 : byte x4) (b5 : byte x5) (b6 : byte x6) (b7 : byte x7) (b8 : byte x8) (b9 : byte x9) (b10 : byte x10) (b11 : byte x11) (b12 : byte x12) (b13 : byte x13) (b14 : byte x14) (b15 : byte x15) :
    Calls Ybad.prog 10 #[.agg #[.int .u64 (be8 x0 x1 x2 x3 x4 x5 x6 x7), .int .u64 (be8 x8 x9 x10 x11 x12 x13 x14 x15), .pointer p]] w fun e w' => e = .returned (.agg #[.int .u8 x0, .int .u8 x1, .int .u8 x2, .int .u8 x3, .int .u8 x4, .int .u8 x5, .int .u8 x6, .int .u8 x7, .int .u8 x8, .int .u8 x9, .int .u8 x10, .int .u8 x11, .int .u8 x12, .int .u8 x13, .int .u8 x14, .int .u8 x15]) ∧ Below w.heap.size w w' := by
  unfold byte at *
  have a0 : be8 x0 x1 x2 x3 x4 x5 x6 x7 = be8 x0 x1 x2 x3 x4 x5 x6 x7 := rfl
  refine (as16_any (be8 x0 x1 x2 x3 x4 x5 x6 x7) (be8 x8 x9 x10 x11 x12 x13 x14 x15) p w (by unfold be8; omega) (by unfold be8; omega) (by unfold be8; omega) (by unfold be8; omega)).mono ?_
  rintro e w' ⟨rfl, hb⟩
  refine ⟨?_, hb⟩
  have h0 : be8 x0 x1 x2 x3 x4 x5 x6 x7 / 72057594037927936 = x0 := by unfold be8; omega
  have h1 : be8 x0 x1 x2 x3 x4 x5 x6 x7 / 281474976710656 % 256 = x1 := by unfold be8; omega
  have h2 : be8 x0 x1 x2 x3 x4 x5 x6 x7 / 1099511627776 % 256 = x2 := by unfold be8; omega
  have h3 : be8 x0 x1 x2 x3 x4 x5 x6 x7 / 4294967296 % 256 = x3 := by unfold be8; omega
  have h4 : be8 x0 x1 x2 x3 x4 x5 x6 x7 / 16777216 % 256 = x4 := by unfold be8; omega
  have h5 : be8 x0 x1 x2 x3 x4 x5 x6 x7 / 65536 % 256 = x5 := by unfold be8; omega
  have h6 : be8 x0 x1 x2 x3 x4 x5 x6 x7 / 256 % 256 = x6 := by unfold be8; omega
  have h7 : be8 x0 x1 x2 x3 x4 x5 x6 x7 % 256 = x7 := by unfold be8; omega
  have l0 : be8 x8 x9 x10 x11 x12 x13 x14 x15 / 72057594037927936 = x8 := by unfold be8; omega
  have l1 : be8 x8 x9 x10 x11 x12 x13 x14 x15 / 281474976710656 % 256 = x9 := by unfold be8; omega
  have l2 : be8 x8 x9 x10 x11 x12 x13 x14 x15 / 1099511627776 % 256 = x10 := by unfold be8; omega
  have l3 : be8 x8 x9 x10 x11 x12 x13 x14 x15 / 4294967296 % 256 = x11 := by unfold be8; omega
  have l4 : be8 x8 x9 x10 x11 x12 x13 x14 x15 / 16777216 % 256 = x12 := by unfold be8; omega
  have l5 : be8 x8 x9 x10 x11 x12 x13 x14 x15 / 65536 % 256 = x13 := by unfold be8; omega
  have l6 : be8 x8 x9 x10 x11 x12 x13 x14 x15 / 256 % 256 = x14 := by unfold be8; omega
  have l7 : be8 x8 x9 x10 x11 x12 x13 x14 x15 % 256 = x15 := by unfold be8; omega
  rw [h0, h1, h2, h3, h4, h5, h6, h7, l0, l1, l2, l3, l4, l5, l6, l7]

theorem range_later {w W : World} {b o : Nat} {cs : List Value} (hb : Below w.heap.size w W) (h : w.rangeAt b o cs) : W.rangeAt b o cs := fun j v hv => cell_later hb (h j v hv)

set_option maxHeartbeats 4000000 in
set_option maxRecDepth 100000 in
theorem lawG {u0 u1 u2 u3 u4 u5 u6 u7 u8 u9 u10 u16 u17 u18 u19 u20 u21 u22 u23 u24 u25 u26 u27 u28 u29 u30 u31 u32 u33 u34 u35 u36 u37 u38 u39 u40 u41 u42 u43 u44 u45 u46 u47 u48 u49 u50 u51 u52 u53 u54 u55 u56 u57 u58 u59 u60 u61 u62 u63 u64 u65 u66 u67 u68 u69 u70 u71 u72 u73 u74 u75 u76 u77 u78 u79 u80 u81 u82 u83 u84 u85 u86 u87 u88 u89 u90 u91 u92 u93 u94 u95 u96 u97 u98 u99 u100 u101 u102 u103 u104 u105 u106 u107 u108 u109 u110 u111 u112 u113 u114 u115 u116 u117 u118 u119 u120 u121 u122 u123 u124 u125 u126 u127 u128 u129 u130 u131 u132 u133 u134 u135 u136 u137 u138 u139 u140 u141 u142 u143 u144 u145 u146 u147 u148 u149 u150 u151 u152 u153 u154 u155 u156 u157 u158 u159 u160 u161 u162 u163 u164 u165 u166 u167 u168 u169 u170 u171 u172 u173 u174 u175 u176 u177 u178 u179 u180 u181 u182 u183 : Value} (x0 x1 x2 x3 x4 x5 x6 x7 x8 x9 x10 x11 x12 x13 x14 x15 : Int) (g11 g14 m : Nat) (p6 : Addr) (w0 w : World) (b0 : byte x0) (b1 : byte x1) (b2 : byte x2) (b3 : byte x3) (b4 : byte x4) (b5 : byte x5) (b6 : byte x6) (b7 : byte x7) (b8 : byte x8) (b9 : byte x9) (b10 : byte x10) (b11 : byte x11) (b12 : byte x12) (b13 : byte x13) (b14 : byte x14) (b15 : byte x15) (hm : m < 255) (hb : Below w0.heap.size w0 w) (h11 : w.heap[g11]? = some (.cells #[.int .u64 (be8 x0 x1 x2 x3 x4 x5 x6 x7), .int .u64 (be8 x8 x9 x10 x11 x12 x13 x14 x15), .pointer (some p6), .int .u8 ((m : Int) + 1)] 36 (0, 0))) (h14 : w.heap[g14]? = some (.cells #[.int .u8 x0, .int .u8 x1, .int .u8 x2, .int .u8 x3, .int .u8 x4, .int .u8 x5, .int .u8 x6, .int .u8 x7, .int .u8 x8, .int .u8 x9, .int .u8 x10, .int .u8 x11, .int .u8 x12, .int .u8 x13, .int .u8 x14, .int .u8 x15] 42 (0, 0))) :
    Code.wp Ybad.prog (dropSeq 11 (Ybad.f3.body.getD .skip)) (bodyPost Ybad.prog Ybad.f3 (fun e w' => e = .returned (.bool true) ∧ Below w0.heap.size w0 w'))
      ⟨#[u0, u1, u2, u3, u4, u5, u6, u7, u8, u9, u10, .pointer (some ⟨g11, 0, none⟩), .nilIface, .bool true, .pointer (some ⟨g14, 0, none⟩), .int .i64 m, u16, u17, u18, u19, u20, u21, u22, u23, u24, u25, u26, u27, u28, u29, u30, u31, u32, u33, u34, u35, u36, u37, u38, u39, u40, u41, u42, u43, u44, u45, u46, u47, u48, u49, u50, u51, u52, u53, u54, u55, u56, u57, u58, u59, u60, u61, u62, u63, u64, u65, u66, u67, u68, u69, u70, u71, u72, u73, u74, u75, u76, u77, u78, u79, u80, u81, u82, u83, u84, u85, u86, u87, u88, u89, u90, u91, u92, u93, u94, u95, u96, u97, u98, u99, u100, u101, u102, u103, u104, u105, u106, u107, u108, u109, u110, u111, u112, u113, u114, u115, u116, u117, u118, u119, u120, u121, u122, u123, u124, u125, u126, u127, u128, u129, u130, u131, u132, u133, u134, u135, u136, u137, u138, u139, u140, u141, u142, u143, u144, u145, u146, u147, u148, u149, u150, u151, u152, u153, u154, u155, u156, u157, u158, u159, u160, u161, u162, u163, u164, u165, u166, u167, u168, u169, u170, u171, u172, u173, u174, u175, u176, u177, u178, u179, u180, u181, u182, u183], []⟩ w := by
  conv => arg 2; whnf
  have HV := hid (fun W => isValid_any (be8 x0 x1 x2 x3 x4 x5 x6 x7) (be8 x8 x9 x10 x11 x12 x13 x14 x15) ((m : Int) + 1) (some p6) W)
  have HBT : Hid (∀ W, Calls Ybad.prog 8 #[.agg #[.int .u64 (be8 x0 x1 x2 x3 x4 x5 x6 x7), .int .u64 (be8 x8 x9 x10 x11 x12 x13 x14 x15), .pointer (some p6), .int .u8 ((m : Int) + 1)]] W fun e w' => e = .returned (.int .i64 m) ∧ Below W.heap.size W w') := hid (fun W => (bits_any (be8 x0 x1 x2 x3 x4 x5 x6 x7) (be8 x8 x9 x10 x11 x12 x13 x14 x15) ((m : Int) + 1) (some p6) W (by unfold byte; omega)).mono (by rintro e w' ⟨rfl, rfl⟩; exact ⟨by rw [Int.add_sub_cancel], (by repeat' (first | exact Below.refl _ _ | assumption | refine Below.setCell ?_ ?_ _ | refine quiet_below _ _ ?_ _ | refine Below.drew ?_ | refine Below.alloc ?_ ?_ _ | go_size))⟩))
  have HVT : Hid (∀ W, Calls Ybad.prog 7 #[.agg #[.int .u64 (be8 x0 x1 x2 x3 x4 x5 x6 x7), .int .u64 (be8 x8 x9 x10 x11 x12 x13 x14 x15), .pointer (some p6), .int .u8 ((m : Int) + 1)]] W fun e w' => e = .returned (.bool true) ∧ Below W.heap.size W w') := hid (fun W => (isValid_any (be8 x0 x1 x2 x3 x4 x5 x6 x7) (be8 x8 x9 x10 x11 x12 x13 x14 x15) ((m : Int) + 1) (some p6) W).mono (by rintro e w' ⟨rfl, rfl⟩; exact ⟨by rw [decide_eq_true (by omega)], (by repeat' (first | exact Below.refl _ _ | assumption | refine Below.setCell ?_ ?_ _ | refine quiet_below _ _ ?_ _ | refine Below.drew ?_ | refine Below.alloc ?_ ?_ _ | go_size))⟩))
  have HAD := hid (fun W => addr_any (be8 x0 x1 x2 x3 x4 x5 x6 x7) (be8 x8 x9 x10 x11 x12 x13 x14 x15) ((m : Int) + 1) p6 W)
  have HAS := hid (fun W => as16_be x0 x1 x2 x3 x4 x5 x6 x7 x8 x9 x10 x11 x12 x13 x14 x15 (some p6) W b0 b1 b2 b3 b4 b5 b6 b7 b8 b9 b10 b11 b12 b13 b14 b15)
  have HB := hid hb
  have l1 : g11 < w.heap.size := lt_of_block h11
  have l2 : g14 < w.heap.size := lt_of_block h14
  have fp0 : w.cell? ⟨g11, 0, none⟩ = some (.int .u64 (be8 x0 x1 x2 x3 x4 x5 x6 x7)) := by rw [cell_of_row w g11 _ _ _ _ h11]; rfl
  have fp1 : w.cell? ⟨g11, 1, none⟩ = some (.int .u64 (be8 x8 x9 x10 x11 x12 x13 x14 x15)) := by rw [cell_of_row w g11 _ _ _ _ h11]; rfl
  have fp2 : w.cell? ⟨g11, 2, none⟩ = some (.pointer (some p6)) := by rw [cell_of_row w g11 _ _ _ _ h11]; rfl
  have fp3 : w.cell? ⟨g11, 3, none⟩ = some (.int .u8 ((m : Int) + 1)) := by rw [cell_of_row w g11 _ _ _ _ h11]; rfl
  have fp4 : w.rangeAt g14 0 [.int .u8 x0, .int .u8 x1, .int .u8 x2, .int .u8 x3, .int .u8 x4, .int .u8 x5, .int .u8 x6, .int .u8 x7, .int .u8 x8, .int .u8 x9, .int .u8 x10, .int .u8 x11, .int .u8 x12, .int .u8 x13, .int .u8 x14, .int .u8 x15] := by
    have := World.rangeAt_of_block h14 0 16
    exact this
  have hu := Ybad.underlying42
  have hi42 : (Ybad.prog.info? 42).map (·.size) = some ([.int .u8 x0, .int .u8 x1, .int .u8 x2, .int .u8 x3, .int .u8 x4, .int .u8 x5, .int .u8 x6, .int .u8 x7, .int .u8 x8, .int .u8 x9, .int .u8 x10, .int .u8 x11, .int .u8 x12, .int .u8 x13, .int .u8 x14, .int .u8 x15] : List Value).length := by kernel_rfl
  clear hb h11 h14 HV b0 b1 b2 b3 b4 b5 b6 b7 b8 b9 b10 b11 b12 b13 b14 b15
  generalize be8 x0 x1 x2 x3 x4 x5 x6 x7 = hi at *
  generalize be8 x8 x9 x10 x11 x12 x13 x14 x15 = lo at *
  dsimp only
  go_upto_region 29 with fail
  go_region_held3 (fun w' => w'.cell? ⟨g11, 0, none⟩ = some (.int .u64 hi) ∧ w'.cell? ⟨g11, 1, none⟩ = some (.int .u64 lo) ∧ w'.cell? ⟨g11, 2, none⟩ = some (.pointer (some p6)) ∧ w'.cell? ⟨g11, 3, none⟩ = some (.int .u8 ((m : Int) + 1)) ∧ w'.rangeAt g14 0 [.int .u8 x0, .int .u8 x1, .int .u8 x2, .int .u8 x3, .int .u8 x4, .int .u8 x5, .int .u8 x6, .int .u8 x7, .int .u8 x8, .int .u8 x9, .int .u8 x10, .int .u8 x11, .int .u8 x12, .int .u8 x13, .int .u8 x14, .int .u8 x15]) (refine ⟨?_, ?_, ?_, ?_, ?_⟩ <;> (first | (go_keep; done) | (go_keep_ranges; done) | (simp [*, go_sem]; done)))
    (first
      | (go_at_call 7; refine (HVT.out _).mono ?_; rintro e w7 ⟨rfl, hbw7⟩; have fq0 := cell_later hbw7 fp0; have fq1 := cell_later hbw7 fp1; have fq2 := cell_later hbw7 fp2; have fq3 := cell_later hbw7 fp3; have fq4 := range_later hbw7 fp4; clear fp0 fp1 fp2 fp3 fp4)
      | (go_at_call 8; refine (HBT.out _).mono ?_; rintro e w8 ⟨rfl, hbw8⟩; have fr0 := cell_later hbw8 fq0; have fr1 := cell_later hbw8 fq1; have fr2 := cell_later hbw8 fq2; have fr3 := cell_later hbw8 fq3; have fr4 := range_later hbw8 fq4; clear fq0 fq1 fq2 fq3 fq4)
      | (go_at_call 9; refine (HAD.out _).mono ?_; rintro e w9 ⟨rfl, hbw9⟩; have fs0 := cell_later hbw9 fr0; have fs1 := cell_later hbw9 fr1; have fs2 := cell_later hbw9 fr2; have fs3 := cell_later hbw9 fr3; have fs4 := range_later hbw9 fr4; clear fr0 fr1 fr2 fr3 fr4)
      | (go_at_call 10; refine (HAS.out _).mono ?_; rintro e w10 ⟨rfl, hbw10⟩; have ft0 := cell_later hbw10 fs0; have ft1 := cell_later hbw10 fs1; have ft2 := cell_later hbw10 fs2; have ft3 := cell_later hbw10 fs3; have ft4 := range_later hbw10 fs4; clear fs0 fs1 fs2 fs3 fs4))
  have c7 : Below w.heap.size w w7 := ⟨hbw7.os, hbw7.tape, hbw7.output, hbw7.size, hbw7.block⟩
  have c8 : Below w7.heap.size w7 w8 := ⟨hbw8.os, hbw8.tape, hbw8.output, hbw8.size, hbw8.block⟩
  have c9 : Below w8.heap.size w8 w9 := ⟨hbw9.os, hbw9.tape, hbw9.output, hbw9.size, hbw9.block⟩
  have c10 : Below w9.heap.size w9 w10 := ⟨hbw10.os, hbw10.tape, hbw10.output, hbw10.size, hbw10.block⟩
  have d8 := c7.trans (c8.mono c7.size)
  have d9 := d8.trans (c9.mono d8.size)
  have d10 := hid (HB.out.trans ((d9.trans (c10.mono d9.size)).mono HB.out.size))
  clear hbw7 hbw8 hbw9 hbw10 c7 c8 c9 c10 d8 d9
  go_wp2
  go_returns
  exact ⟨rfl, d10.out⟩
end Go.Proofs.YbulkebiiDoor
