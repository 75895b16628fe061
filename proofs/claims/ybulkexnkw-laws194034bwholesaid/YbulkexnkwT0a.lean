/-
  The law's front (regions 0 .. 9, 10 .. 20).
-/
import Derived.Test.YbulkexnkwT0b
namespace Go.Proofs.Ybulkexnkw
open Go.RowKit
set_option linter.unusedVariables false

theorem Lot.mono {w : World} {B B' kB tB vB n a wid : Nat} {key : Nat → Int} {blk : Nat → Nat} {c1 : Int} (h : Lot w B kB tB vB n a wid key blk c1) (hB : B' ≤ B) : Lot w B' kB tB vB n a wid key blk c1 :=
  ⟨h.ok, h.ot, h.ov, h.seat, h.nk, h.nt, h.nv, h.x0, h.x1, h.xc, h.fz, Nat.le_trans hB h.lk, Nat.le_trans hB h.lt, Nat.le_trans hB h.lv, Nat.le_trans hB h.lb⟩

set_option maxRecDepth 1000000 in
set_option maxHeartbeats 3200000 in
theorem t0a2 (B : Nat) (hint : Int) (useHint : Bool) (ca ga : Option Addr) (lad : Addr) (cn cc gn gc lc m p nz za s1 s2 : Nat) (w0 w : World) (ls gs : List Int) (cs : List Bool)
    (Q : Ask w0 w B hint ca ga lad cn cc gn gc lc m p ls gs cs) (hBw : B ≤ w.heap.size)
    (hs1 : s1 < 256) (hs2 : s2 < 256) (hnz : nz ≤ 4) (hza : za < nz)
    (u0 u3 u8 u9 u10 u11 u12 u13 u14 u15 u16 u17 u18 u19 u26 u27 u28 u29 u30 u31 u32 u33 u34 u35 u36 u37 u38 u39 u40 u41 u42 u43 u44 u45 u46 u47 u48 u49 u50 u51 u52 u53 u54 u55 u56 u57 u58 u59 u60 u61 u62 u63 u64 u65 u66 u67 u68 u69 u70 u71 u72 u73 u74 u75 u76 u77 u78 u79 u80 u81 u82 u83 u84 u85 u86 u87 u88 u89 u90 u91 u92 u93 u94 u95 u96 u97 u98 u99 u100 u101 u102 u103 u104 u105 u106 u107 u108 u109 u110 u111 u112 u113 u114 u115 u116 u117 u118 u119 u120 u121 u122 u123 u124 u125 u126 u127 u128 u129 u130 u131 u132 u133 u134 u135 u136 u137 u138 u139 u140 u141 u142 u143 u144 u145 u146 u147 u148 u149 u150 u151 u152 u153 u154 u155 u156 u157 u158 u159 u160 u161 u162 u163 u164 u165 u166 u167 u168 u169 u170 u171 u172 u173 u174 u175 u176 u177 u178 u179 u180 u181 u182 u183 u184 u185 u186 u187 u188 u189 u190 u191 u192 u193 u194 u195 u196 u197 u198 u199 u200 u201 u202 u203 u204 u205 u206 u207 u208 u209 u210 u211 u212 u213 u214 u215 u216 u217 u218 u219 u220 u221 u222 u223 u224 u225 u226 u227 u228 u229 u230 u231 u232 u233 u234 u235 u236 u237 u238 u239 u240 u241 u242 u243 u244 u245 u246 u247 u248 u249 u250 u251 u252 u253 u254 u255 u256 u257 u258 u259 u260 u261 u262 u263 u264 u265 u266 u267 u268 u269 u270 u271 u272 u273 u274 u275 u276 u277 u278 u279 u280 u281 u282 u283 u284 u285 u286 u287 u288 u289 u290 u291 u292 u293 u294 u295 u296 u297 u298 u299 u300 u301 u302 u303 u304 u305 u306 u307 u308 u309 u310 u311 u312 u313 u314 u315 u316 u317 u318 u319 u320 u321 u322 u323 u324 u325 u326 u327 u328 u329 u330 u331 u332 u333 u334 u335 u336 u337 u338 u339 u340 u341 u342 u343 u344 u345 u346 u347 u348 u349 u350 u351 u352 u353 u354 u355 u356 u357 u358 u359 u360 u361 u362 u363 u364 u365 u366 u367 u368 u369 u370 u371 u372 u373 u374 u375 u376 u377 u378 u379 u380 u381 u382 u383 u384 u385 u386 u387 u388 u389 u390 u391 u392 u393 u394 u395 u396 u397 u398 u399 u400 u401 u402 u403 u404 u405 u406 u407 u408 u409 u410 u411 u412 u413 u414 u415 u416 u417 u418 u419 u420 u421 u422 u423 u424 u425 u426 u427 u428 u429 u430 u431 u432 u433 u434 u435 u436 u437 u438 u439 u440 u441 u442 u443 u444 u445 u446 u447 u448 u449 u450 u451 u452 u453 u454 u455 u456 u457 u458 u459 u460 u461 u462 u463 u464 u465 u466 u467 u468 u469 u470 u471 u472 u473 u474 u475 u476 u477 u478 u479 u480 u481 u482 u483 u484 u485 u486 u487 u488 u489 u490 u491 u492 u493 u494 u495 u496 u497 u498 u499 u500 u501 u502 u503 u504 u505 u506 u507 u508 u509 u510 u511 u512 u513 u514 u515 u516 u517 u518 u519 u520 u521 u522 u523 u524 u525 u526 u527 u528 u529 u530 u531 u532 u533 u534 u535 u536 u537 u538 u539 u540 u541 u542 u543 u544 u545 u546 u547 u548 u549 u550 u551 u552 u553 u554 u555 u556 u557 u558 u559 u560 u561 u562 u563 u564 u565 u566 u567 u568 u569 u570 u571 u572 u573 u574 u575 u576 u577 u578 u579 u580 u581 u582 u583 u584 u585 u586 : Value) :
    Code.wp Yba.prog (tailAt 10 (bodyOf Yba.f3)) (bodyPost Yba.prog Yba.f3 fun e w' => e = .returned (.bool true) ∧ Below B w0 w') ⟨#[u0, .slice ca cn cc, .slice ga gn gc, u3, .bool useHint, .int .i64 hint, .int .u8 (s1 : Nat), .int .u8 (s2 : Nat), u8, u9, u10, u11, u12, u13, u14, u15, u16, u17, u18, u19, .bool false, .slice (some lad) m lc, .int .i64 m, .int .i64 p, .int .i64 nz, .int .i64 za, u26, u27, u28, u29, u30, u31, u32, u33, u34, u35, u36, u37, u38, u39, u40, u41, u42, u43, u44, u45, u46, u47, u48, u49, u50, u51, u52, u53, u54, u55, u56, u57, u58, u59, u60, u61, u62, u63, u64, u65, u66, u67, u68, u69, u70, u71, u72, u73, u74, u75, u76, u77, u78, u79, u80, u81, u82, u83, u84, u85, u86, u87, u88, u89, u90, u91, u92, u93, u94, u95, u96, u97, u98, u99, u100, u101, u102, u103, u104, u105, u106, u107, u108, u109, u110, u111, u112, u113, u114, u115, u116, u117, u118, u119, u120, u121, u122, u123, u124, u125, u126, u127, u128, u129, u130, u131, u132, u133, u134, u135, u136, u137, u138, u139, u140, u141, u142, u143, u144, u145, u146, u147, u148, u149, u150, u151, u152, u153, u154, u155, u156, u157, u158, u159, u160, u161, u162, u163, u164, u165, u166, u167, u168, u169, u170, u171, u172, u173, u174, u175, u176, u177, u178, u179, u180, u181, u182, u183, u184, u185, u186, u187, u188, u189, u190, u191, u192, u193, u194, u195, u196, u197, u198, u199, u200, u201, u202, u203, u204, u205, u206, u207, u208, u209, u210, u211, u212, u213, u214, u215, u216, u217, u218, u219, u220, u221, u222, u223, u224, u225, u226, u227, u228, u229, u230, u231, u232, u233, u234, u235, u236, u237, u238, u239, u240, u241, u242, u243, u244, u245, u246, u247, u248, u249, u250, u251, u252, u253, u254, u255, u256, u257, u258, u259, u260, u261, u262, u263, u264, u265, u266, u267, u268, u269, u270, u271, u272, u273, u274, u275, u276, u277, u278, u279, u280, u281, u282, u283, u284, u285, u286, u287, u288, u289, u290, u291, u292, u293, u294, u295, u296, u297, u298, u299, u300, u301, u302, u303, u304, u305, u306, u307, u308, u309, u310, u311, u312, u313, u314, u315, u316, u317, u318, u319, u320, u321, u322, u323, u324, u325, u326, u327, u328, u329, u330, u331, u332, u333, u334, u335, u336, u337, u338, u339, u340, u341, u342, u343, u344, u345, u346, u347, u348, u349, u350, u351, u352, u353, u354, u355, u356, u357, u358, u359, u360, u361, u362, u363, u364, u365, u366, u367, u368, u369, u370, u371, u372, u373, u374, u375, u376, u377, u378, u379, u380, u381, u382, u383, u384, u385, u386, u387, u388, u389, u390, u391, u392, u393, u394, u395, u396, u397, u398, u399, u400, u401, u402, u403, u404, u405, u406, u407, u408, u409, u410, u411, u412, u413, u414, u415, u416, u417, u418, u419, u420, u421, u422, u423, u424, u425, u426, u427, u428, u429, u430, u431, u432, u433, u434, u435, u436, u437, u438, u439, u440, u441, u442, u443, u444, u445, u446, u447, u448, u449, u450, u451, u452, u453, u454, u455, u456, u457, u458, u459, u460, u461, u462, u463, u464, u465, u466, u467, u468, u469, u470, u471, u472, u473, u474, u475, u476, u477, u478, u479, u480, u481, u482, u483, u484, u485, u486, u487, u488, u489, u490, u491, u492, u493, u494, u495, u496, u497, u498, u499, u500, u501, u502, u503, u504, u505, u506, u507, u508, u509, u510, u511, u512, u513, u514, u515, u516, u517, u518, u519, u520, u521, u522, u523, u524, u525, u526, u527, u528, u529, u530, u531, u532, u533, u534, u535, u536, u537, u538, u539, u540, u541, u542, u543, u544, u545, u546, u547, u548, u549, u550, u551, u552, u553, u554, u555, u556, u557, u558, u559, u560, u561, u562, u563, u564, u565, u566, u567, u568, u569, u570, u571, u572, u573, u574, u575, u576, u577, u578, u579, u580, u581, u582, u583, u584, u585, u586], []⟩ w := by
  have hm5 := Q.hm5
  have mk1 := fun w => make22 w nz (by omega)
  have mk2 := fun w => make26 w nz (by omega)
  obtain ⟨hk1, _, hk3⟩ := mk3_own w nz 27
  have hz := mk3_size w nz 27
  have L0 := mk3_laid w nz 27 6 (fun j => 10 * (j + 1))
  obtain ⟨w1, hw1⟩ : ∃ p, p = mk3 w nz 27 := ⟨_, rfl⟩
  rw [← hw1] at hk1 hk3 hz L0
  conv => arg 2; whnf
  go_upto_region 13 with fail
  rename_i KO hKO KI hKI
  have hK' := hidden hKO
  clear hKO
  have e1 : ((w.alloc (newRow' (.int .i64 0) nz 2)).alloc (newRow' (.int .i64 0) nz 2)).alloc (newRow' (.pointer none) nz 27) = w1 := hw1.symm
  rw [e1]
  go_wp2_with fail
  go_loopw [29] (fun i wr => ∃ (k : Nat) (blk : Nat → Nat), k ≤ nz ∧ i = .int .i64 k ∧ Laid w1 wr w.heap.size (w.heap.size + 2) nz 6 (fun j => 10 * (j + 1)) blk k) (fun i _ => nz - (intOf i).toNat)
  case atStart => exact ⟨0, fun _ => 0, by omega, rfl, L0⟩
  case round =>
    obtain ⟨k, blk, hk, rfl, L⟩ := hrel
    by_cases hlt : k < nz
    · obtain ⟨v1, e1⟩ := L.xk k hlt
      obtain ⟨v2, e2⟩ := L.xv k hlt
      have f1 : wr.frozen? ⟨w.heap.size, k, none⟩ = false := (L.fr.frozen _ _ (by omega)).trans (hk1.fz (by simp; omega) k)
      have f2 : wr.frozen? ⟨w.heap.size + 2, k, none⟩ = false := (L.fr.frozen _ _ (by omega)).trans (hk3.fz (by simp; omega) k)
      have lr : w.heap.size + 3 ≤ wr.heap.size := by have := L.fr.size; omega
      have sl : ∀ v o, Below wr.heap.size (wr.setCell ⟨w.heap.size, k, none⟩ v) ((wr.setCell ⟨w.heap.size, k, none⟩ v).alloc o) := fun v o => by
        have h := below_alloc (wr.setCell ⟨w.heap.size, k, none⟩ v) o
        rw [World.size_setCell] at h
        exact h
      have c2 : ∀ v o, ((wr.setCell ⟨w.heap.size, k, none⟩ v).alloc o).cell? ⟨w.heap.size + 2, k, none⟩ = some v2 := fun v o => by
        rw [(sl v o).cell (by show w.heap.size + 2 < _; omega)]
        exact (FrO.setCell wr w.heap.size k v).some e2 (by omega)
      have g2 : ∀ v o, ((wr.setCell ⟨w.heap.size, k, none⟩ v).alloc o).frozen? ⟨w.heap.size + 2, k, none⟩ = false := fun v o => by
        rw [(sl v o).frozen (by show w.heap.size + 2 < _; omega)]
        exact (World.frozen?_setCell ..).trans f2
      go_wp2
      refine ⟨⟨k + 1, (fun j => if j = k then wr.heap.size else blk j), by omega, rfl, ?_⟩, by simp only [intOf]; omega⟩
      exact L.step hlt (by omega) (by omega) (by omega) _ 32 rfl (fun o ho => ⟨_, Array.getElem?_eq_getElem (by simpa using ho)⟩)
    · have hkm : k = nz := by omega
      subst hkm
      go_wp2_with fail
      refine hK'.out _ _ ?_
      clear hK'
      have c1 := L.cv za hza
      have c0 := L.ck za hza
      obtain ⟨v3, c3⟩ := L.cx za hza 1 (by omega)
      have f3 := L.fz za hza 1
      have hl := L.lo za hza
      go_upto_region 20 with fail
      rename_i K hK
      have hK2 := hidden hK
      clear hK
      go_wp2_with fail
      refine hK2.out _ _ ?_
      clear hK2
      have L' := L
      rw [hw1] at L'
      have H5 := lot_of L' (fun i j h => by show (10 * ((i : Int) + 1)) < 10 * ((j : Int) + 1); omega) hza (by omega) 999
      have lw := L.fr.size
      have FZ : FrO w (wr.setCell ⟨blk za, 1, none⟩ (.int .i64 999)) (fun _ _ => False) := by
        have G0 : FrO w w1 (fun _ _ => False) := by rw [hw1]; exact FrO.of_below (mk3_below w k 27) _
        have G1 := (G0.trans L.fr).trans (FrO.setCell wr (blk za) 1 (.int .i64 999))
        refine G1.strike (fun b o hb h => ?_)
        rcases h with (h | h) | h
        · exact h
        · omega
        · omega
      exact t0b1 B hint useHint ca ga lad cn cc gn gc lc m p k za _ _ _ s1 s2 _ _ w0 _ ls gs cs (Q.kept FZ hBw) (H5.mono hBw) hnz hza hs1 hs2 _ _ _ _ _ _ _ _ _ _ _ _ _ _ _ _ _ _ _ _ _ _ _ _ _ _ _ _ _ _ _ _ _ _ _ _ _ _ _ _ _ _ _ _ _ _ _ _ _ _ _ _ _ _ _ _ _ _ _ _ _ _ _ _ _ _ _ _ _ _ _ _ _ _ _ _ _ _ _ _ _ _ _ _ _ _ _ _ _ _ _ _ _ _ _ _ _ _ _ _ _ _ _ _ _ _ _ _ _ _ _ _ _ _ _ _ _ _ _ _ _ _ _ _ _ _ _ _ _ _ _ _ _ _ _ _ _ _ _ _ _ _ _ _ _ _ _ _ _ _ _ _ _ _ _ _ _ _ _ _ _ _ _ _ _ _ _ _ _ _ _ _ _ _ _ _ _ _ _ _ _ _ _ _ _ _ _ _ _ _ _ _ _ _ _ _ _ _ _ _ _ _ _ _ _ _ _ _ _ _ _ _ _ _ _ _ _ _ _ _ _ _ _ _ _ _ _ _ _ _ _ _ _ _ _ _ _ _ _ _ _ _ _ _ _ _ _ _ _ _ _ _ _ _ _ _ _ _ _ _ _ _ _ _ _ _ _ _ _ _ _ _ _ _ _ _ _ _ _ _ _ _ _ _ _ _ _ _ _ _ _ _ _ _ _ _ _ _ _ _ _ _ _ _ _ _ _ _ _ _ _ _ _ _ _ _ _ _ _ _ _ _ _ _ _ _ _ _ _ _ _ _ _ _ _ _ _ _ _ _ _ _ _ _ _ _ _ _ _ _ _ _ _ _ _ _ _ _ _ _ _ _ _ _ _ _ _ _ _ _ _ _ _ _ _ _ _ _ _ _ _ _ _ _ _ _ _ _ _ _ _ _ _ _ _ _ _ _ _ _ _ _ _ _ _ _ _ _ _ _ _ _ _ _ _ _ _ _ _ _ _ _ _ _ _ _ _ _ _ _ _ _ _ _ _ _ _ _ _ _ _ _ _ _ _ _ _ _ _ _ _ _ _ _ _ _ _ _ _ _ _ _ _ _ _ _ _ _ _ _ _ _ _ _ _ _ _ _ _ _ _ _ _ _ _ _ _ _ _ _ _ _ _ _ _ _ _ _ _ _ _ _ _ _ _ _ _ _ _ _ _ _ _ _ _ _ _ _ _ _ _ _ _ _ _ _ _ _ _ _ _ _ _ _ _ _ _ _ _ _ _ _ _ _ _ _ _ _ _ _ _ _ _ _ _ _ _ _ _ _ _ _ _ _ _ _ _ _ _ _ _
set_option maxRecDepth 1000000 in
set_option maxHeartbeats 3200000 in
theorem t0a0 (B : Nat) (hint : Int) (useHint : Bool) (la ca ga : Option Addr) (ln lcap cn cc gn gc pk s1 s2 s3 s4 : Nat) (w0 w : World) (ls gs : List Int) (cs : List Bool)
    (hpk : pk < 18446744073709551616) (hs1 : s1 < 256) (hs2 : s2 < 256) (hs3 : s3 < 256) (hs4 : s4 < 256) (hln : ln ≤ lcap) (hcc : cn ≤ cc) (hgc : gn ≤ gc) (lcs : cs.length = cn) (lgs : gs.length = gn)
    (hg0 : ∀ g, g ∈ gs → 0 ≤ g) (hg1 : ∀ g, g ∈ gs → g ≤ 255) (hls : Arg0 w la ln (fun j => .int .i64 (ls.getD j 0))) (hcs : Arg0 w ca cn (fun j => .bool (cs.getD j false))) (hgs : Arg0 w ga gn (fun j => .int .u8 (gs.getD j 0)))
    (hr : ∀ j, -9223372036854775808 ≤ ls.getD j 0 ∧ ls.getD j 0 ≤ 9223372036854775807) (hB : Below B w0 w) (hBw : B ≤ w.heap.size) (hh1 : -9223372036854775808 ≤ hint) (hh2 : hint ≤ 9223372036854775807)
    (u10 u11 u12 u13 u14 u15 u16 u17 u18 u19 u20 u21 u22 u23 u24 u25 u26 u27 u28 u29 u30 u31 u32 u33 u34 u35 u36 u37 u38 u39 u40 u41 u42 u43 u44 u45 u46 u47 u48 u49 u50 u51 u52 u53 u54 u55 u56 u57 u58 u59 u60 u61 u62 u63 u64 u65 u66 u67 u68 u69 u70 u71 u72 u73 u74 u75 u76 u77 u78 u79 u80 u81 u82 u83 u84 u85 u86 u87 u88 u89 u90 u91 u92 u93 u94 u95 u96 u97 u98 u99 u100 u101 u102 u103 u104 u105 u106 u107 u108 u109 u110 u111 u112 u113 u114 u115 u116 u117 u118 u119 u120 u121 u122 u123 u124 u125 u126 u127 u128 u129 u130 u131 u132 u133 u134 u135 u136 u137 u138 u139 u140 u141 u142 u143 u144 u145 u146 u147 u148 u149 u150 u151 u152 u153 u154 u155 u156 u157 u158 u159 u160 u161 u162 u163 u164 u165 u166 u167 u168 u169 u170 u171 u172 u173 u174 u175 u176 u177 u178 u179 u180 u181 u182 u183 u184 u185 u186 u187 u188 u189 u190 u191 u192 u193 u194 u195 u196 u197 u198 u199 u200 u201 u202 u203 u204 u205 u206 u207 u208 u209 u210 u211 u212 u213 u214 u215 u216 u217 u218 u219 u220 u221 u222 u223 u224 u225 u226 u227 u228 u229 u230 u231 u232 u233 u234 u235 u236 u237 u238 u239 u240 u241 u242 u243 u244 u245 u246 u247 u248 u249 u250 u251 u252 u253 u254 u255 u256 u257 u258 u259 u260 u261 u262 u263 u264 u265 u266 u267 u268 u269 u270 u271 u272 u273 u274 u275 u276 u277 u278 u279 u280 u281 u282 u283 u284 u285 u286 u287 u288 u289 u290 u291 u292 u293 u294 u295 u296 u297 u298 u299 u300 u301 u302 u303 u304 u305 u306 u307 u308 u309 u310 u311 u312 u313 u314 u315 u316 u317 u318 u319 u320 u321 u322 u323 u324 u325 u326 u327 u328 u329 u330 u331 u332 u333 u334 u335 u336 u337 u338 u339 u340 u341 u342 u343 u344 u345 u346 u347 u348 u349 u350 u351 u352 u353 u354 u355 u356 u357 u358 u359 u360 u361 u362 u363 u364 u365 u366 u367 u368 u369 u370 u371 u372 u373 u374 u375 u376 u377 u378 u379 u380 u381 u382 u383 u384 u385 u386 u387 u388 u389 u390 u391 u392 u393 u394 u395 u396 u397 u398 u399 u400 u401 u402 u403 u404 u405 u406 u407 u408 u409 u410 u411 u412 u413 u414 u415 u416 u417 u418 u419 u420 u421 u422 u423 u424 u425 u426 u427 u428 u429 u430 u431 u432 u433 u434 u435 u436 u437 u438 u439 u440 u441 u442 u443 u444 u445 u446 u447 u448 u449 u450 u451 u452 u453 u454 u455 u456 u457 u458 u459 u460 u461 u462 u463 u464 u465 u466 u467 u468 u469 u470 u471 u472 u473 u474 u475 u476 u477 u478 u479 u480 u481 u482 u483 u484 u485 u486 u487 u488 u489 u490 u491 u492 u493 u494 u495 u496 u497 u498 u499 u500 u501 u502 u503 u504 u505 u506 u507 u508 u509 u510 u511 u512 u513 u514 u515 u516 u517 u518 u519 u520 u521 u522 u523 u524 u525 u526 u527 u528 u529 u530 u531 u532 u533 u534 u535 u536 u537 u538 u539 u540 u541 u542 u543 u544 u545 u546 u547 u548 u549 u550 u551 u552 u553 u554 u555 u556 u557 u558 u559 u560 u561 u562 u563 u564 u565 u566 u567 u568 u569 u570 u571 u572 u573 u574 u575 u576 u577 u578 u579 u580 u581 u582 u583 u584 u585 u586 : Value) :
    Code.wp Yba.prog (tailAt 0 (bodyOf Yba.f3)) (bodyPost Yba.prog Yba.f3 fun e w' => e = .returned (.bool true) ∧ Below B w0 w') ⟨#[.slice la ln lcap, .slice ca cn cc, .slice ga gn gc, .int .u64 (pk : Nat), .bool useHint, .int .i64 hint, .int .u8 (s1 : Nat), .int .u8 (s2 : Nat), .int .u8 (s3 : Nat), .int .u8 (s4 : Nat), u10, u11, u12, u13, u14, u15, u16, u17, u18, u19, u20, u21, u22, u23, u24, u25, u26, u27, u28, u29, u30, u31, u32, u33, u34, u35, u36, u37, u38, u39, u40, u41, u42, u43, u44, u45, u46, u47, u48, u49, u50, u51, u52, u53, u54, u55, u56, u57, u58, u59, u60, u61, u62, u63, u64, u65, u66, u67, u68, u69, u70, u71, u72, u73, u74, u75, u76, u77, u78, u79, u80, u81, u82, u83, u84, u85, u86, u87, u88, u89, u90, u91, u92, u93, u94, u95, u96, u97, u98, u99, u100, u101, u102, u103, u104, u105, u106, u107, u108, u109, u110, u111, u112, u113, u114, u115, u116, u117, u118, u119, u120, u121, u122, u123, u124, u125, u126, u127, u128, u129, u130, u131, u132, u133, u134, u135, u136, u137, u138, u139, u140, u141, u142, u143, u144, u145, u146, u147, u148, u149, u150, u151, u152, u153, u154, u155, u156, u157, u158, u159, u160, u161, u162, u163, u164, u165, u166, u167, u168, u169, u170, u171, u172, u173, u174, u175, u176, u177, u178, u179, u180, u181, u182, u183, u184, u185, u186, u187, u188, u189, u190, u191, u192, u193, u194, u195, u196, u197, u198, u199, u200, u201, u202, u203, u204, u205, u206, u207, u208, u209, u210, u211, u212, u213, u214, u215, u216, u217, u218, u219, u220, u221, u222, u223, u224, u225, u226, u227, u228, u229, u230, u231, u232, u233, u234, u235, u236, u237, u238, u239, u240, u241, u242, u243, u244, u245, u246, u247, u248, u249, u250, u251, u252, u253, u254, u255, u256, u257, u258, u259, u260, u261, u262, u263, u264, u265, u266, u267, u268, u269, u270, u271, u272, u273, u274, u275, u276, u277, u278, u279, u280, u281, u282, u283, u284, u285, u286, u287, u288, u289, u290, u291, u292, u293, u294, u295, u296, u297, u298, u299, u300, u301, u302, u303, u304, u305, u306, u307, u308, u309, u310, u311, u312, u313, u314, u315, u316, u317, u318, u319, u320, u321, u322, u323, u324, u325, u326, u327, u328, u329, u330, u331, u332, u333, u334, u335, u336, u337, u338, u339, u340, u341, u342, u343, u344, u345, u346, u347, u348, u349, u350, u351, u352, u353, u354, u355, u356, u357, u358, u359, u360, u361, u362, u363, u364, u365, u366, u367, u368, u369, u370, u371, u372, u373, u374, u375, u376, u377, u378, u379, u380, u381, u382, u383, u384, u385, u386, u387, u388, u389, u390, u391, u392, u393, u394, u395, u396, u397, u398, u399, u400, u401, u402, u403, u404, u405, u406, u407, u408, u409, u410, u411, u412, u413, u414, u415, u416, u417, u418, u419, u420, u421, u422, u423, u424, u425, u426, u427, u428, u429, u430, u431, u432, u433, u434, u435, u436, u437, u438, u439, u440, u441, u442, u443, u444, u445, u446, u447, u448, u449, u450, u451, u452, u453, u454, u455, u456, u457, u458, u459, u460, u461, u462, u463, u464, u465, u466, u467, u468, u469, u470, u471, u472, u473, u474, u475, u476, u477, u478, u479, u480, u481, u482, u483, u484, u485, u486, u487, u488, u489, u490, u491, u492, u493, u494, u495, u496, u497, u498, u499, u500, u501, u502, u503, u504, u505, u506, u507, u508, u509, u510, u511, u512, u513, u514, u515, u516, u517, u518, u519, u520, u521, u522, u523, u524, u525, u526, u527, u528, u529, u530, u531, u532, u533, u534, u535, u536, u537, u538, u539, u540, u541, u542, u543, u544, u545, u546, u547, u548, u549, u550, u551, u552, u553, u554, u555, u556, u557, u558, u559, u560, u561, u562, u563, u564, u565, u566, u567, u568, u569, u570, u571, u572, u573, u574, u575, u576, u577, u578, u579, u580, u581, u582, u583, u584, u585, u586], []⟩ w := by
  have e1 : (1 + (s3 : Int) % 4) = ((1 + s3 % 4 : Nat) : Int) := by omega
  have e2 : (s4 : Int) % ((1 + s3 % 4 : Nat) : Int) = ((s4 % (1 + s3 % 4) : Nat) : Int) := (Int.natCast_emod ..).symm
  have E := hidden (And.intro e1 e2)
  clear e1 e2
  conv => arg 2; whnf
  by_cases h1 : (ln : Int) > 4096
  · go_wp2
    go_ret
    exact ⟨rfl, hB⟩
  · have hz : s4 % (1 + s3 % 4) < 1 + s3 % 4 := Nat.mod_lt _ (by omega)
    by_cases h0 : ln = 0
    · subst h0
      go_upto_region 9 with fail
      rename_i K hK
      have hK' := hidden hK
      clear hK
      go_wp2_with fail
      refine hK'.out _ _ ?_
      clear hK'
      rw [E.out.1, E.out.2]
      have F : FrO w (w.alloc (.cells #[.int .i64 0] 2)) (fun _ _ => False) := FrO.of_below (below_alloc _ _) _
      have c0 : (w.alloc (.cells #[.int .i64 0] 2)).cell? ⟨w.heap.size, 0, none⟩ = some (.int .i64 0) := by
        have e : (w.alloc (.cells #[.int .i64 0] 2)).heap[w.heap.size]? = some (.cells #[.int .i64 0] 2) := heap_alloc_new _ _
        generalize w.alloc (.cells #[.int .i64 0] 2) = W' at e
        simp [World.cell?, e]
      have s0 : (w.alloc (.cells #[.int .i64 0] 2)).heap.size = w.heap.size + 1 := size_alloc' _ _
      have Q : Ask w0 (w.alloc (.cells #[.int .i64 0] 2)) B hint ca ga ⟨w.heap.size, 0, none⟩ cn cc gn gc 1 1 0 [] gs cs :=
        ⟨by omega, by omega, by omega, hcc, hgc, lcs, lgs, hg0, hg1, (fun _ => ⟨_, rfl, by show w.heap.size < _; omega, fun j hj => by
          have : j = 0 := by omega
          subst this
          rw [addr_add]
          exact c0⟩), hcs.kept F, hgs.kept F, (fun j => by simp [List.getD]), hB.trans (F.below hBw (fun _ _ e => e.elim)), hh1, hh2⟩
      exact t0a2 B hint useHint ca ga _ cn cc gn gc 1 1 0 _ _ s1 s2 w0 _ [] gs cs Q (by omega) hs1 hs2 (by omega) hz _ _ _ _ _ _ _ _ _ _ _ _ _ _ _ _ _ _ _ _ _ _ _ _ _ _ _ _ _ _ _ _ _ _ _ _ _ _ _ _ _ _ _ _ _ _ _ _ _ _ _ _ _ _ _ _ _ _ _ _ _ _ _ _ _ _ _ _ _ _ _ _ _ _ _ _ _ _ _ _ _ _ _ _ _ _ _ _ _ _ _ _ _ _ _ _ _ _ _ _ _ _ _ _ _ _ _ _ _ _ _ _ _ _ _ _ _ _ _ _ _ _ _ _ _ _ _ _ _ _ _ _ _ _ _ _ _ _ _ _ _ _ _ _ _ _ _ _ _ _ _ _ _ _ _ _ _ _ _ _ _ _ _ _ _ _ _ _ _ _ _ _ _ _ _ _ _ _ _ _ _ _ _ _ _ _ _ _ _ _ _ _ _ _ _ _ _ _ _ _ _ _ _ _ _ _ _ _ _ _ _ _ _ _ _ _ _ _ _ _ _ _ _ _ _ _ _ _ _ _ _ _ _ _ _ _ _ _ _ _ _ _ _ _ _ _ _ _ _ _ _ _ _ _ _ _ _ _ _ _ _ _ _ _ _ _ _ _ _ _ _ _ _ _ _ _ _ _ _ _ _ _ _ _ _ _ _ _ _ _ _ _ _ _ _ _ _ _ _ _ _ _ _ _ _ _ _ _ _ _ _ _ _ _ _ _ _ _ _ _ _ _ _ _ _ _ _ _ _ _ _ _ _ _ _ _ _ _ _ _ _ _ _ _ _ _ _ _ _ _ _ _ _ _ _ _ _ _ _ _ _ _ _ _ _ _ _ _ _ _ _ _ _ _ _ _ _ _ _ _ _ _ _ _ _ _ _ _ _ _ _ _ _ _ _ _ _ _ _ _ _ _ _ _ _ _ _ _ _ _ _ _ _ _ _ _ _ _ _ _ _ _ _ _ _ _ _ _ _ _ _ _ _ _ _ _ _ _ _ _ _ _ _ _ _ _ _ _ _ _ _ _ _ _ _ _ _ _ _ _ _ _ _ _ _ _ _ _ _ _ _ _ _ _ _ _ _ _ _ _ _ _ _ _ _ _ _ _ _ _ _ _ _ _ _ _ _ _ _ _ _ _ _ _ _ _ _ _ _ _ _ _ _ _ _ _ _ _ _ _ _ _ _ _ _ _ _ _ _ _ _ _ _ _ _ _ _ _ _ _ _ _ _ _ _ _ _ _ _ _ _ _ _ _ _ _ _ _ _ _ _ _ _ _ _ _ _ _ _ _ _ _ _ _ _
    · have h0' : ((ln : Int) == 0) = false := by
        rw [beq_eq_false_iff_ne]
        omega
      go_upto_region 9 with fail
      rename_i K hK
      have hK' := hidden hK
      clear hK
      go_wp2_with fail
      refine hK'.out _ _ ?_
      clear hK'
      clear hpk h0'
      have hpos : 0 < ln := Nat.pos_of_ne_zero h0
      have e3 : (pk : Int) % (ln : Int) = ((pk % ln : Nat) : Int) := (Int.natCast_emod ..).symm
      have hp : pk % ln < ln := Nat.mod_lt _ hpos
      have h4 : ln ≤ 4096 := by omega
      have e4 : wrap64 ((pk % ln : Nat) : Int) = ((pk % ln : Nat) : Int) := by
        generalize pk % ln = q at hp
        unfold wrap64
        omega
      rw [E.out.1, E.out.2, e3, e4]
      obtain ⟨ad, rfl, a1, a2⟩ := hls hpos
      exact t0a2 B hint useHint ca ga _ cn cc gn gc lcap ln _ _ _ s1 s2 w0 _ ls gs cs ⟨h4, hp, hln, hcc, hgc, lcs, lgs, hg0, hg1, (fun _ => ⟨ad, rfl, a1, a2⟩), hcs, hgs, hr, hB, hh1, hh2⟩ hBw hs1 hs2 (by omega) hz _ _ _ _ _ _ _ _ _ _ _ _ _ _ _ _ _ _ _ _ _ _ _ _ _ _ _ _ _ _ _ _ _ _ _ _ _ _ _ _ _ _ _ _ _ _ _ _ _ _ _ _ _ _ _ _ _ _ _ _ _ _ _ _ _ _ _ _ _ _ _ _ _ _ _ _ _ _ _ _ _ _ _ _ _ _ _ _ _ _ _ _ _ _ _ _ _ _ _ _ _ _ _ _ _ _ _ _ _ _ _ _ _ _ _ _ _ _ _ _ _ _ _ _ _ _ _ _ _ _ _ _ _ _ _ _ _ _ _ _ _ _ _ _ _ _ _ _ _ _ _ _ _ _ _ _ _ _ _ _ _ _ _ _ _ _ _ _ _ _ _ _ _ _ _ _ _ _ _ _ _ _ _ _ _ _ _ _ _ _ _ _ _ _ _ _ _ _ _ _ _ _ _ _ _ _ _ _ _ _ _ _ _ _ _ _ _ _ _ _ _ _ _ _ _ _ _ _ _ _ _ _ _ _ _ _ _ _ _ _ _ _ _ _ _ _ _ _ _ _ _ _ _ _ _ _ _ _ _ _ _ _ _ _ _ _ _ _ _ _ _ _ _ _ _ _ _ _ _ _ _ _ _ _ _ _ _ _ _ _ _ _ _ _ _ _ _ _ _ _ _ _ _ _ _ _ _ _ _ _ _ _ _ _ _ _ _ _ _ _ _ _ _ _ _ _ _ _ _ _ _ _ _ _ _ _ _ _ _ _ _ _ _ _ _ _ _ _ _ _ _ _ _ _ _ _ _ _ _ _ _ _ _ _ _ _ _ _ _ _ _ _ _ _ _ _ _ _ _ _ _ _ _ _ _ _ _ _ _ _ _ _ _ _ _ _ _ _ _ _ _ _ _ _ _ _ _ _ _ _ _ _ _ _ _ _ _ _ _ _ _ _ _ _ _ _ _ _ _ _ _ _ _ _ _ _ _ _ _ _ _ _ _ _ _ _ _ _ _ _ _ _ _ _ _ _ _ _ _ _ _ _ _ _ _ _ _ _ _ _ _ _ _ _ _ _ _ _ _ _ _ _ _ _ _ _ _ _ _ _ _ _ _ _ _ _ _ _ _ _ _ _ _ _ _ _ _ _ _ _ _ _ _ _ _ _ _ _ _ _ _ _ _ _ _ _ _ _ _ _ _ _ _ _ _ _ _ _ _ _ _ _ _ _ _ _ _ _ _ _ _ _ _ _ _ _ _ _ _ _ _ _ _ _ _ _ _ _ _ _ _ _ _ _ _
end Go.Proofs.Ybulkexnkw
