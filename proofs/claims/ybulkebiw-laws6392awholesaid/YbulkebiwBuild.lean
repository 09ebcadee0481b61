import Derived.Test.YbulkebiwLoop
import Derived.Test.YbulkebiwItems
namespace Go.Proofs.Ybulkebiw
open Go.RowKit
attribute [local go_sem] str9 str44 bool4
set_option linter.unusedVariables false

set_option maxHeartbeats 4000000 in
set_option maxRecDepth 100000 in
theorem build13 {u5 u6 u7 u8 u9 u10 u17 u18 u19 u20 u21 u22 u23 u24 u25 u26 u27 u28 u29 u30 u31 u32 u33 u34 u35 u36 u37 u38 u39 u40 u41 u42 u43 u44 u45 u46 u47 u48 u49 u50 u51 u52 u53 u54 u55 u56 u57 u58 u59 u60 u61 u62 u63 u64 u65 u66 u67 u68 u69 u70 u71 u72 u73 u74 u75 u76 u77 u78 u79 u80 u81 u82 u83 u84 u85 u86 u87 u88 u89 u90 u91 u92 u93 u94 u95 u96 u97 u98 u99 u100 u101 u102 u103 u104 u105 u106 u107 u108 u109 u110 u111 u112 u113 u114 u115 u116 u117 u118 u119 u120 u121 u122 u123 u124 u125 u126 u127 u128 u129 u130 u131 u132 u133 u134 u135 u136 u137 u138 u139 u140 u141 u142 u143 u144 u145 u146 u147 u148 u149 u150 u151 u152 u153 u154 u155 u156 u157 u158 u159 u160 u161 u162 u163 u164 u165 u166 u167 u168 u169 u170 u171 u172 u173 u174 u175 u176 u177 u178 u179 u180 u181 u182 u183 u184 u185 u186 u187 u188 u189 u190 u191 u192 u193 u194 u195 u196 u197 u198 u199 u200 u201 u202 u203 u204 u205 u206 u207 u208 u209 u210 u211 u212 u213 u214 u215 u216 u217 u218 u219 u220 u221 u222 u223 u224 u225 u226 u227 u228 u229 u230 u231 u232 u233 u234 u235 u236 u237 u238 u239 u240 u241 u242 u243 u244 u245 u246 u247 u248 u249 u250 u251 u252 u253 u254 u255 u256 u257 u258 u259 u260 u261 u262 u263 u264 u265 u266 u267 u268 u269 u270 u271 u272 u273 u274 u275 u276 u277 u278 u279 u280 u281 u282 u283 u284 u285 u286 u287 u288 u289 u290 u291 u292 u293 u294 u295 u296 u297 u298 u299 u300 u301 u302 u303 u304 u305 u306 u307 u308 u309 u310 u311 u312 u313 u314 u315 u316 u317 u318 u319 u320 u321 u322 u323 u324 u325 u326 u327 u328 u329 u330 u331 u332 u333 u334 u335 u336 u337 u338 u339 u340 u341 u342 u343 u344 u345 u346 u347 u348 u349 u350 u351 u352 u353 u354 u355 u356 u357 u358 u359 u360 u361 u362 u363 u364 u365 u366 u367 u368 u369 u370 u371 u372 u373 u374 u375 u376 u377 u378 u379 u380 u381 u382 u383 u384 u385 u386 u387 u388 u389 u390 u391 u392 u393 u394 u395 u396 u397 u398 u399 u400 u401 u402 u403 u404 u405 u406 : Value} (typ s1 s2 : ByteArray) (mask : Int) (flag : Bool) (p0 p1 p2 p3 p4 p5 : Option Addr) (W w : World) (hb : Below W.heap.size W w) (q0 : p0.isSome = (bits .and .u8 mask 1 != 0)) (q1 : p1.isSome = (bits .and .u8 (mask / 2) 1 != 0)) (q2 : p2.isSome = (bits .and .u8 (mask / 4) 1 != 0)) (q3 : p3.isSome = (bits .and .u8 (mask / 8) 1 != 0)) (q4 : p4.isSome = (bits .and .u8 (mask / 16) 1 != 0)) (q5 : p5.isSome = (bits .and .u8 (mask / 32) 1 != 0)) (h0 : At w p0 [.string s1, .string s2]) (h1 : At w p1 [.string s1, .string s2, .string s1, .string s2]) (h2 : At w p2 [.string s1, .string s2, .map none, .string s1]) (h3 : At w p3 [.string s1, .bool flag, .string s2]) (h4 : At w p4 [.string s1, .string s2]) (h5 : At w p5 [.string s1]) :
    Code.wp Yba.prog (dropSeq 13 (Yba.f3.body.getD .skip)) (bodyPost Yba.prog Yba.f3 (fun e w' => e = .returned (.bool true) ∧ Below W.heap.size W w'))
      ⟨(List.toArray (.string typ :: .int .u8 mask :: .string s1 :: .string s2 :: .bool flag :: u5 :: u6 :: u7 :: u8 :: u9 :: u10 :: .pointer p0 :: .pointer p1 :: .pointer p2 :: .pointer p3 :: .pointer p4 :: .pointer p5 :: u17 :: u18 :: u19 :: u20 :: u21 :: u22 :: u23 :: u24 :: u25 :: u26 :: u27 :: u28 :: u29 :: u30 :: u31 :: u32 :: u33 :: u34 :: u35 :: u36 :: u37 :: u38 :: u39 :: u40 :: u41 :: u42 :: u43 :: u44 :: u45 :: u46 :: u47 :: u48 :: u49 :: u50 :: u51 :: u52 :: u53 :: u54 :: u55 :: u56 :: u57 :: u58 :: u59 :: u60 :: u61 :: u62 :: u63 :: u64 :: u65 :: u66 :: u67 :: u68 :: u69 :: u70 :: u71 :: u72 :: u73 :: u74 :: u75 :: u76 :: u77 :: u78 :: u79 :: u80 :: u81 :: u82 :: u83 :: u84 :: u85 :: u86 :: u87 :: u88 :: u89 :: u90 :: u91 :: u92 :: u93 :: u94 :: u95 :: u96 :: u97 :: u98 :: u99 :: u100 :: u101 :: u102 :: u103 :: u104 :: u105 :: u106 :: u107 :: u108 :: u109 :: u110 :: u111 :: u112 :: u113 :: u114 :: u115 :: u116 :: u117 :: u118 :: u119 :: u120 :: u121 :: u122 :: u123 :: u124 :: u125 :: u126 :: u127 :: u128 :: u129 :: u130 :: u131 :: u132 :: u133 :: u134 :: u135 :: u136 :: u137 :: u138 :: u139 :: u140 :: u141 :: u142 :: u143 :: u144 :: u145 :: u146 :: u147 :: u148 :: u149 :: u150 :: u151 :: u152 :: u153 :: u154 :: u155 :: u156 :: u157 :: u158 :: u159 :: u160 :: u161 :: u162 :: u163 :: u164 :: u165 :: u166 :: u167 :: u168 :: u169 :: u170 :: u171 :: u172 :: u173 :: u174 :: u175 :: u176 :: u177 :: u178 :: u179 :: u180 :: u181 :: u182 :: u183 :: u184 :: u185 :: u186 :: u187 :: u188 :: u189 :: u190 :: u191 :: u192 :: u193 :: u194 :: u195 :: u196 :: u197 :: u198 :: u199 :: u200 :: u201 :: u202 :: u203 :: u204 :: u205 :: u206 :: u207 :: u208 :: u209 :: u210 :: u211 :: u212 :: u213 :: u214 :: u215 :: u216 :: u217 :: u218 :: u219 :: u220 :: u221 :: u222 :: u223 :: u224 :: u225 :: u226 :: u227 :: u228 :: u229 :: u230 :: u231 :: u232 :: u233 :: u234 :: u235 :: u236 :: u237 :: u238 :: u239 :: u240 :: u241 :: u242 :: u243 :: u244 :: u245 :: u246 :: u247 :: u248 :: u249 :: u250 :: u251 :: u252 :: u253 :: u254 :: u255 :: u256 :: u257 :: u258 :: u259 :: u260 :: u261 :: u262 :: u263 :: u264 :: u265 :: u266 :: u267 :: u268 :: u269 :: u270 :: u271 :: u272 :: u273 :: u274 :: u275 :: u276 :: u277 :: u278 :: u279 :: u280 :: u281 :: u282 :: u283 :: u284 :: u285 :: u286 :: u287 :: u288 :: u289 :: u290 :: u291 :: u292 :: u293 :: u294 :: u295 :: u296 :: u297 :: u298 :: u299 :: u300 :: u301 :: u302 :: u303 :: u304 :: u305 :: u306 :: u307 :: u308 :: u309 :: u310 :: u311 :: u312 :: u313 :: u314 :: u315 :: u316 :: u317 :: u318 :: u319 :: u320 :: u321 :: u322 :: u323 :: u324 :: u325 :: u326 :: u327 :: u328 :: u329 :: u330 :: u331 :: u332 :: u333 :: u334 :: u335 :: u336 :: u337 :: u338 :: u339 :: u340 :: u341 :: u342 :: u343 :: u344 :: u345 :: u346 :: u347 :: u348 :: u349 :: u350 :: u351 :: u352 :: u353 :: u354 :: u355 :: u356 :: u357 :: u358 :: u359 :: u360 :: u361 :: u362 :: u363 :: u364 :: u365 :: u366 :: u367 :: u368 :: u369 :: u370 :: u371 :: u372 :: u373 :: u374 :: u375 :: u376 :: u377 :: u378 :: u379 :: u380 :: u381 :: u382 :: u383 :: u384 :: u385 :: u386 :: u387 :: u388 :: u389 :: u390 :: u391 :: u392 :: u393 :: u394 :: u395 :: u396 :: u397 :: u398 :: u399 :: u400 :: u401 :: u402 :: u403 :: u404 :: u405 :: u406 :: [])), []⟩ w := by
  conv => arg 2; whnf
  have HB := hid hb
  clear hb
  have H0 := hid h0
  clear h0
  have H1 := hid h1
  clear h1
  have H2 := hid h2
  clear h2
  have H3 := hid h3
  clear h3
  have H4 := hid h4
  clear h4
  have H5 := hid h5
  clear h5
  have Q0 := hid q0
  clear q0
  have Q1 := hid q1
  clear q1
  have Q2 := hid q2
  clear q2
  have Q3 := hid q3
  clear q3
  have Q4 := hid q4
  clear q4
  have Q5 := hid q5
  clear q5

  go_wp2_with fail
  refine (items_any w.heap.size p0 p1 p2 p3 p4 p5 _ (by simp) (by simp) (by simp) (by simp) (by simp) (by simp)).mono ?_
  rintro e wx ⟨rfl, hbx⟩
  have HX := hid hbx
  clear hbx
  simp only [rows]
  go_wp2
  generalize hw1 : (wx.alloc (.cells #[.string ⟨#[116, 101, 120, 116]⟩, .bool p0.isSome, .iface 22 (.pointer p0), .string ⟨#[105, 109, 97, 103, 101]⟩, .bool p1.isSome, .iface 23 (.pointer p1), .string ⟨#[116, 111, 111, 108, 95, 117, 115, 101]⟩, .bool p2.isSome, .iface 24 (.pointer p2), .string ⟨#[116, 111, 111, 108, 95, 114, 101, 115, 117, 108, 116]⟩, .bool p3.isSome, .iface 25 (.pointer p3), .string ⟨#[116, 104, 105, 110, 107, 105, 110, 103]⟩, .bool p4.isSome, .iface 26 (.pointer p4), .string ⟨#[114, 101, 100, 97, 99, 116, 101, 100, 95, 116, 104, 105, 110, 107, 105, 110, 103]⟩, .bool p5.isSome, .iface 27 (.pointer p5)] 50)).alloc (.cells #[.string ⟨#[116, 101, 120, 116]⟩, .string ⟨#[105, 109, 97, 103, 101]⟩, .string ⟨#[116, 111, 111, 108, 95, 117, 115, 101]⟩, .string ⟨#[116, 111, 111, 108, 95, 114, 101, 115, 117, 108, 116]⟩, .string ⟨#[116, 104, 105, 110, 107, 105, 110, 103]⟩, .string ⟨#[114, 101, 100, 97, 99, 116, 101, 100, 95, 116, 104, 105, 110, 107, 105, 110, 103]⟩] 52) = w1
  have hx0 : w.heap.size < wx.heap.size := by have := HX.out.size; simp at this; omega
  have hsz : w1.heap.size = wx.heap.size + 2 := by rw [← hw1]; simp
  have bw : Below W.heap.size W w1 := by
    rw [← hw1]
    have h1 : Below w.heap.size w wx := ((Below.refl _ _).alloc (Nat.le_refl _) _).trans (HX.out.mono (by simp))
    exact HB.out.trans ((h1.alloc (Nat.le_of_lt hx0) _).alloc (by simp; omega) _ |>.mono HB.out.size)
  have h1 : Below w.heap.size w w1 := by
    rw [← hw1]
    have h1 : Below w.heap.size w wx := ((Below.refl _ _).alloc (Nat.le_refl _) _).trans (HX.out.mono (by simp))
    exact (h1.alloc (Nat.le_of_lt hx0) _).alloc (by simp; omega) _
  have hcb : Below (w.heap.size + 1) (w.alloc (.cells #[.string typ, .pointer p0, .pointer p1, .pointer p2, .pointer p3, .pointer p4, .pointer p5] 46)) w1 := by
    rw [← hw1]
    have h2 := HX.out
    simp only [World.size_alloc] at h2
    exact (h2.alloc (by omega) _).alloc (by simp; omega) _
  have hg : w1.heap[wx.heap.size]? = some (.cells (rows p0 p1 p2 p3 p4 p5) 50 (0, 0)) := by
    rw [← hw1, heap_alloc_old _ _ (by simp)]; exact heap_alloc_new _ _
  have hw : w1.heap[wx.heap.size + 1]? = some (.cells wants 52 (0, 0)) := by
    rw [← hw1]
    have := heap_alloc_new (wx.alloc (.cells #[.string ⟨#[116, 101, 120, 116]⟩, .bool p0.isSome, .iface 22 (.pointer p0), .string ⟨#[105, 109, 97, 103, 101]⟩, .bool p1.isSome, .iface 23 (.pointer p1), .string ⟨#[116, 111, 111, 108, 95, 117, 115, 101]⟩, .bool p2.isSome, .iface 24 (.pointer p2), .string ⟨#[116, 111, 111, 108, 95, 114, 101, 115, 117, 108, 116]⟩, .bool p3.isSome, .iface 25 (.pointer p3), .string ⟨#[116, 104, 105, 110, 107, 105, 110, 103]⟩, .bool p4.isSome, .iface 26 (.pointer p4), .string ⟨#[114, 101, 100, 97, 99, 116, 101, 100, 95, 116, 104, 105, 110, 107, 105, 110, 103]⟩, .bool p5.isSome, .iface 27 (.pointer p5)] 50)) (.cells #[.string ⟨#[116, 101, 120, 116]⟩, .string ⟨#[105, 109, 97, 103, 101]⟩, .string ⟨#[116, 111, 111, 108, 95, 117, 115, 101]⟩, .string ⟨#[116, 111, 111, 108, 95, 114, 101, 115, 117, 108, 116]⟩, .string ⟨#[116, 104, 105, 110, 107, 105, 110, 103]⟩, .string ⟨#[114, 101, 100, 97, 99, 116, 101, 100, 95, 116, 104, 105, 110, 107, 105, 110, 103]⟩] 52)
    simpa [wants] using this
  have c0 : w1.cell? ⟨w.heap.size, 0, none⟩ = some (.string typ) := (hcb.cell (p := ⟨w.heap.size, 0, none⟩) (Nat.lt_succ_self _)).trans (by simp)
  have c1 : w1.cell? ⟨w.heap.size, 1, none⟩ = some (.pointer p0) := (hcb.cell (p := ⟨w.heap.size, 1, none⟩) (Nat.lt_succ_self _)).trans (by simp)
  have c2 : w1.cell? ⟨w.heap.size, 2, none⟩ = some (.pointer p1) := (hcb.cell (p := ⟨w.heap.size, 2, none⟩) (Nat.lt_succ_self _)).trans (by simp)
  have c3 : w1.cell? ⟨w.heap.size, 3, none⟩ = some (.pointer p2) := (hcb.cell (p := ⟨w.heap.size, 3, none⟩) (Nat.lt_succ_self _)).trans (by simp)
  have c4 : w1.cell? ⟨w.heap.size, 4, none⟩ = some (.pointer p3) := (hcb.cell (p := ⟨w.heap.size, 4, none⟩) (Nat.lt_succ_self _)).trans (by simp)
  have c5 : w1.cell? ⟨w.heap.size, 5, none⟩ = some (.pointer p4) := (hcb.cell (p := ⟨w.heap.size, 5, none⟩) (Nat.lt_succ_self _)).trans (by simp)
  have c6 : w1.cell? ⟨w.heap.size, 6, none⟩ = some (.pointer p5) := (hcb.cell (p := ⟨w.heap.size, 6, none⟩) (Nat.lt_succ_self _)).trans (by simp)
  have C0 := hid c0
  have C1 := hid c1
  have C2 := hid c2
  have C3 := hid c3
  have C4 := hid c4
  have C5 := hid c5
  have C6 := hid c6
  have G0 := hid (H0.out.later h1)
  have G1 := hid (H1.out.later h1)
  have G2 := hid (H2.out.later h1)
  have G3 := hid (H3.out.later h1)
  have G4 := hid (H4.out.later h1)
  have G5 := hid (H5.out.later h1)
  have HG := hid hg
  have HW := hid hw
  have HBB := hid bw
  clear c0 c1 c2 c3 c4 c5 c6 hg hw hcb hw1 hx0 hsz h1 bw HX HB H0 H1 H2 H3 H4 H5
  generalize wx.heap.size = gg at *
  generalize hgw : gg + 1 = gw at *
  generalize w.heap.size = gc at *
  clear hgw
  go_loopw [20] (fun i wr => ∃ k : Nat, k ≤ 6 ∧ i = .int .i64 k ∧ Below w1.heap.size w1 wr) (fun i _ => 6 - (intOf i).toNat)
  case atStart => exact ⟨0, Nat.zero_le _, rfl, Below.refl _ _⟩
  case round =>
    obtain ⟨k, hk, rfl, hbw⟩ := hrel
    have hg' := (hbw.block _ (lt_of_block HG.out)).trans HG.out
    have hw' := (hbw.block _ (lt_of_block HW.out)).trans HW.out
    have HBW := hid hbw
    clear hbw
    match k, hk with
    | 0, _ =>
      have r0 : wr.cell? ⟨gg, 0, none⟩ = some (.string ⟨#[116, 101, 120, 116]⟩) := by rw [cell_of_row wr gg _ _ _ _ hg']; rfl
      have r1 : wr.cell? ⟨gg, 1, none⟩ = some (.bool p0.isSome) := by rw [cell_of_row wr gg _ _ _ _ hg']; rfl
      have r2 : wr.cell? ⟨gg, 2, none⟩ = some (.iface 22 (.pointer p0)) := by rw [cell_of_row wr gg _ _ _ _ hg']; rfl
      have s0 : wr.cell? ⟨gw, 0, none⟩ = some (.string ⟨#[116, 101, 120, 116]⟩) := by rw [cell_of_row wr gw _ _ _ _ hw']; rfl
      clear hg' hw'
      go_wp2
      go_quiet (fail)
      go_wp2
      · rename_i hx
        exfalso
        simp [Q0.out] at hx
      · exact ⟨⟨1, by omega, rfl, quiet_below _ _ HBW.out _⟩, by simp [intOf]⟩

    | 1, _ =>
      have r0 : wr.cell? ⟨gg, 3, none⟩ = some (.string ⟨#[105, 109, 97, 103, 101]⟩) := by rw [cell_of_row wr gg _ _ _ _ hg']; rfl
      have r1 : wr.cell? ⟨gg, 4, none⟩ = some (.bool p1.isSome) := by rw [cell_of_row wr gg _ _ _ _ hg']; rfl
      have r2 : wr.cell? ⟨gg, 5, none⟩ = some (.iface 23 (.pointer p1)) := by rw [cell_of_row wr gg _ _ _ _ hg']; rfl
      have s0 : wr.cell? ⟨gw, 1, none⟩ = some (.string ⟨#[105, 109, 97, 103, 101]⟩) := by rw [cell_of_row wr gw _ _ _ _ hw']; rfl
      clear hg' hw'
      go_wp2
      go_quiet (fail)
      go_wp2
      · rename_i hx
        exfalso
        simp [Q1.out] at hx
      · exact ⟨⟨2, by omega, rfl, quiet_below _ _ HBW.out _⟩, by simp [intOf]⟩

    | 2, _ =>
      have r0 : wr.cell? ⟨gg, 6, none⟩ = some (.string ⟨#[116, 111, 111, 108, 95, 117, 115, 101]⟩) := by rw [cell_of_row wr gg _ _ _ _ hg']; rfl
      have r1 : wr.cell? ⟨gg, 7, none⟩ = some (.bool p2.isSome) := by rw [cell_of_row wr gg _ _ _ _ hg']; rfl
      have r2 : wr.cell? ⟨gg, 8, none⟩ = some (.iface 24 (.pointer p2)) := by rw [cell_of_row wr gg _ _ _ _ hg']; rfl
      have s0 : wr.cell? ⟨gw, 2, none⟩ = some (.string ⟨#[116, 111, 111, 108, 95, 117, 115, 101]⟩) := by rw [cell_of_row wr gw _ _ _ _ hw']; rfl
      clear hg' hw'
      go_wp2
      go_quiet (fail)
      go_wp2
      · rename_i hx
        exfalso
        simp [Q2.out] at hx
      · exact ⟨⟨3, by omega, rfl, quiet_below _ _ HBW.out _⟩, by simp [intOf]⟩

    | 3, _ =>
      have r0 : wr.cell? ⟨gg, 9, none⟩ = some (.string ⟨#[116, 111, 111, 108, 95, 114, 101, 115, 117, 108, 116]⟩) := by rw [cell_of_row wr gg _ _ _ _ hg']; rfl
      have r1 : wr.cell? ⟨gg, 10, none⟩ = some (.bool p3.isSome) := by rw [cell_of_row wr gg _ _ _ _ hg']; rfl
      have r2 : wr.cell? ⟨gg, 11, none⟩ = some (.iface 25 (.pointer p3)) := by rw [cell_of_row wr gg _ _ _ _ hg']; rfl
      have s0 : wr.cell? ⟨gw, 3, none⟩ = some (.string ⟨#[116, 111, 111, 108, 95, 114, 101, 115, 117, 108, 116]⟩) := by rw [cell_of_row wr gw _ _ _ _ hw']; rfl
      clear hg' hw'
      go_wp2
      go_quiet (fail)
      go_wp2
      · rename_i hx
        exfalso
        simp [Q3.out] at hx
      · exact ⟨⟨4, by omega, rfl, quiet_below _ _ HBW.out _⟩, by simp [intOf]⟩

    | 4, _ =>
      have r0 : wr.cell? ⟨gg, 12, none⟩ = some (.string ⟨#[116, 104, 105, 110, 107, 105, 110, 103]⟩) := by rw [cell_of_row wr gg _ _ _ _ hg']; rfl
      have r1 : wr.cell? ⟨gg, 13, none⟩ = some (.bool p4.isSome) := by rw [cell_of_row wr gg _ _ _ _ hg']; rfl
      have r2 : wr.cell? ⟨gg, 14, none⟩ = some (.iface 26 (.pointer p4)) := by rw [cell_of_row wr gg _ _ _ _ hg']; rfl
      have s0 : wr.cell? ⟨gw, 4, none⟩ = some (.string ⟨#[116, 104, 105, 110, 107, 105, 110, 103]⟩) := by rw [cell_of_row wr gw _ _ _ _ hw']; rfl
      clear hg' hw'
      go_wp2
      go_quiet (fail)
      go_wp2
      · rename_i hx
        exfalso
        simp [Q4.out] at hx
      · exact ⟨⟨5, by omega, rfl, quiet_below _ _ HBW.out _⟩, by simp [intOf]⟩

    | 5, _ =>
      have r0 : wr.cell? ⟨gg, 15, none⟩ = some (.string ⟨#[114, 101, 100, 97, 99, 116, 101, 100, 95, 116, 104, 105, 110, 107, 105, 110, 103]⟩) := by rw [cell_of_row wr gg _ _ _ _ hg']; rfl
      have r1 : wr.cell? ⟨gg, 16, none⟩ = some (.bool p5.isSome) := by rw [cell_of_row wr gg _ _ _ _ hg']; rfl
      have r2 : wr.cell? ⟨gg, 17, none⟩ = some (.iface 27 (.pointer p5)) := by rw [cell_of_row wr gg _ _ _ _ hg']; rfl
      have s0 : wr.cell? ⟨gw, 5, none⟩ = some (.string ⟨#[114, 101, 100, 97, 99, 116, 101, 100, 95, 116, 104, 105, 110, 107, 105, 110, 103]⟩) := by rw [cell_of_row wr gw _ _ _ _ hw']; rfl
      clear hg' hw'
      go_wp2
      go_quiet (fail)
      go_wp2
      · rename_i hx
        exfalso
        simp [Q5.out] at hx
      · exact ⟨⟨6, by omega, rfl, quiet_below _ _ HBW.out _⟩, by simp [intOf]⟩

    | 6, _ =>
      clear hg' hw'
      go_upto_if 92 with fail
      go_step
      go_step
      go_step
      go_step
      go_step
      go_step
      have hz : Below W.heap.size W wr := HBB.out.trans (HBW.out.mono HBB.out.size)
      exact mid17 typ s1 s2 mask flag p0 p1 p2 p3 p4 p5 W wr hz gc gg ((HBW.out.block _ (lt_of_block HG.out)).trans HG.out) (cell_later HBW.out C0.out) (cell_later HBW.out C1.out) (cell_later HBW.out C2.out) (cell_later HBW.out C3.out) (cell_later HBW.out C4.out) (cell_later HBW.out C5.out) (cell_later HBW.out C6.out) (G0.out.later HBW.out) (G1.out.later HBW.out) (G2.out.later HBW.out) (G3.out.later HBW.out) (G4.out.later HBW.out) (G5.out.later HBW.out)

end Go.Proofs.Ybulkebiw
