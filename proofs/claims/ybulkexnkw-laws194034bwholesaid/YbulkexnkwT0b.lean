/-
  The law from the shapes on (regions 21, 22, 23 .. 33).
-/
import Derived.Test.YbulkexnkwT0c
import Derived.Test.YbulkexnkwLot
import Derived.Test.YbulkexnkwMk2
namespace Go.Proofs.Ybulkexnkw
open Go.RowKit
set_option linter.unusedVariables false

/-- An argument's row, in a block that stands. -/
def Arg0 (w : World) (a : Option Addr) (n : Nat) (f : Nat → Value) : Prop := 0 < n → ∃ ad : Addr, a = some ad ∧ ad.block < w.heap.size ∧ ∀ j, j < n → w.cell? (ad.add j) = some (f j)
theorem Arg0.kept {w w' : World} {a : Option Addr} {n : Nat} {f : Nat → Value} (h : Arg0 w a n f) (F : FrO w w' (fun _ _ => False)) : Arg0 w' a n f := fun h0 => by
  obtain ⟨ad, e, a1, a2⟩ := h h0
  refine ⟨ad, e, Nat.lt_of_lt_of_le a1 F.size, fun j hj => ?_⟩
  rw [← a2 j hj]
  exact World.cell?_of_block (w := w) (by rw [add_block]; exact F.block _ a1 (fun _ h => h))
theorem Arg0.at_ {w w' : World} {a : Option Addr} {n : Nat} {f : Nat → Value} (h : Arg0 w a n f) (F : FrO w w' (fun _ _ => False)) {eB : Nat} (he : w.heap.size ≤ eB) : ArgAt w' eB a n f := fun h0 => by
  obtain ⟨ad, e, a1, a2⟩ := h h0
  obtain ⟨ad', e', b1, b2⟩ := h.kept F h0
  rw [e] at e'
  injection e' with e'
  subst e'
  exact ⟨ad, e, b1, by omega, b2⟩

/-- What the law is given, and what it has made so far. -/
structure Ask (w0 w : World) (B : Nat) (hint : Int) (ca ga : Option Addr) (lad : Addr) (cn cc gn gc lc m p : Nat) (ls gs : List Int) (cs : List Bool) : Prop where
  hm5 : m ≤ 4096
  hp : p < m
  hlc : m ≤ lc
  hcc : cn ≤ cc
  hgc : gn ≤ gc
  lcs : cs.length = cn
  lgs : gs.length = gn
  hg0 : ∀ g, g ∈ gs → 0 ≤ g
  hg1 : ∀ g, g ∈ gs → g ≤ 255
  hls : Arg0 w (some lad) m (fun j => .int .i64 (ls.getD j 0))
  hcs : Arg0 w ca cn (fun j => .bool (cs.getD j false))
  hgs : Arg0 w ga gn (fun j => .int .u8 (gs.getD j 0))
  hr : ∀ j, -9223372036854775808 ≤ ls.getD j 0 ∧ ls.getD j 0 ≤ 9223372036854775807
  hB : Below B w0 w
  hh1 : -9223372036854775808 ≤ hint
  hh2 : hint ≤ 9223372036854775807
theorem Ask.kept {w0 w w' : World} {B : Nat} {hint : Int} {ca ga : Option Addr} {lad : Addr} {cn cc gn gc lc m p : Nat} {ls gs : List Int} {cs : List Bool} (h : Ask w0 w B hint ca ga lad cn cc gn gc lc m p ls gs cs) (F : FrO w w' (fun _ _ => False)) (hs : B ≤ w.heap.size) :
    Ask w0 w' B hint ca ga lad cn cc gn gc lc m p ls gs cs :=
  ⟨h.hm5, h.hp, h.hlc, h.hcc, h.hgc, h.lcs, h.lgs, h.hg0, h.hg1, h.hls.kept F, h.hcs.kept F, h.hgs.kept F, h.hr, h.hB.trans (F.below hs (fun _ _ e => e.elim)), h.hh1, h.hh2⟩

set_option maxRecDepth 1000000 in
set_option maxHeartbeats 3200000 in
theorem t0b (B : Nat) (hint : Int) (useHint : Bool) (ca ga : Option Addr) (lad : Addr) (cn cc gn gc lc m p nz za zkB ztB zvB ns sa : Nat) (kz : Nat → Int) (bz : Nat → Nat) (w0 w : World) (ls gs : List Int) (cs : List Bool)
    (Q : Ask w0 w B hint ca ga lad cn cc gn gc lc m p ls gs cs) (Z : Lot w B zkB ztB zvB nz za 6 kz bz 999)
    (hns : ns ≤ 4) (hsa : sa < ns) (hnz : nz ≤ 4) (hza : za < nz)
    (u0 u3 u6 u7 u8 u9 u10 u11 u12 u13 u14 u15 u16 u17 u18 u19 u24 u29 u34 u35 u36 u37 u38 u39 u40 u41 u42 u43 u44 u45 u46 u47 u48 u49 u50 u51 u52 u53 u54 u55 u56 u57 u58 u59 u60 u61 u62 u63 u64 u65 u66 u67 u68 u69 u70 u71 u72 u73 u74 u75 u76 u77 u78 u79 u80 u81 u82 u83 u84 u85 u86 u87 u88 u89 u90 u91 u92 u93 u94 u95 u96 u97 u98 u99 u100 u101 u102 u103 u104 u105 u106 u107 u108 u109 u110 u111 u112 u113 u114 u115 u116 u117 u118 u119 u120 u121 u122 u123 u124 u125 u126 u127 u128 u129 u130 u131 u132 u133 u134 u135 u136 u137 u138 u139 u140 u141 u142 u143 u144 u145 u146 u147 u148 u149 u150 u151 u152 u153 u154 u155 u156 u157 u158 u159 u160 u161 u162 u163 u164 u165 u166 u167 u168 u169 u170 u171 u172 u173 u174 u175 u176 u177 u178 u179 u180 u181 u182 u183 u184 u185 u186 u187 u188 u189 u190 u191 u192 u193 u194 u195 u196 u197 u198 u199 u200 u201 u202 u203 u204 u205 u206 u207 u208 u209 u210 u211 u212 u213 u214 u215 u216 u217 u218 u219 u220 u221 u222 u223 u224 u225 u226 u227 u228 u229 u230 u231 u232 u233 u234 u235 u236 u237 u238 u239 u240 u241 u242 u243 u244 u245 u246 u247 u248 u249 u250 u251 u252 u253 u254 u255 u256 u257 u258 u259 u260 u261 u262 u263 u264 u265 u266 u267 u268 u269 u270 u271 u272 u273 u274 u275 u276 u277 u278 u279 u280 u281 u282 u283 u284 u285 u286 u287 u288 u289 u290 u291 u292 u293 u294 u295 u296 u297 u298 u299 u300 u301 u302 u303 u304 u305 u306 u307 u308 u309 u310 u311 u312 u313 u314 u315 u316 u317 u318 u319 u320 u321 u322 u323 u324 u325 u326 u327 u328 u329 u330 u331 u332 u333 u334 u335 u336 u337 u338 u339 u340 u341 u342 u343 u344 u345 u346 u347 u348 u349 u350 u351 u352 u353 u354 u355 u356 u357 u358 u359 u360 u361 u362 u363 u364 u365 u366 u367 u368 u369 u370 u371 u372 u373 u374 u375 u376 u377 u378 u379 u380 u381 u382 u383 u384 u385 u386 u387 u388 u389 u390 u391 u392 u393 u394 u395 u396 u397 u398 u399 u400 u401 u402 u403 u404 u405 u406 u407 u408 u409 u410 u411 u412 u413 u414 u415 u416 u417 u418 u419 u420 u421 u422 u423 u424 u425 u426 u427 u428 u429 u430 u431 u432 u433 u434 u435 u436 u437 u438 u439 u440 u441 u442 u443 u444 u445 u446 u447 u448 u449 u450 u451 u452 u453 u454 u455 u456 u457 u458 u459 u460 u461 u462 u463 u464 u465 u466 u467 u468 u469 u470 u471 u472 u473 u474 u475 u476 u477 u478 u479 u480 u481 u482 u483 u484 u485 u486 u487 u488 u489 u490 u491 u492 u493 u494 u495 u496 u497 u498 u499 u500 u501 u502 u503 u504 u505 u506 u507 u508 u509 u510 u511 u512 u513 u514 u515 u516 u517 u518 u519 u520 u521 u522 u523 u524 u525 u526 u527 u528 u529 u530 u531 u532 u533 u534 u535 u536 u537 u538 u539 u540 u541 u542 u543 u544 u545 u546 u547 u548 u549 u550 u551 u552 u553 u554 u555 u556 u557 u558 u559 u560 u561 u562 u563 u564 u565 u566 u567 u568 u569 u570 u571 u572 u573 u574 u575 u576 u577 u578 u579 u580 u581 u582 u583 u584 u585 u586 : Value) :
    Code.wp Yba.prog (tailAt 23 (bodyOf Yba.f3)) (bodyPost Yba.prog Yba.f3 fun e w' => e = .returned (.bool true) ∧ Below B w0 w') ⟨#[u0, .slice ca cn cc, .slice ga gn gc, u3, .bool useHint, .int .i64 hint, u6, u7, u8, u9, u10, u11, u12, u13, u14, u15, u16, u17, u18, u19, .bool false, .slice (some lad) m lc, .int .i64 m, .int .i64 p, u24, .int .i64 za, .slice (some ⟨zkB, 0, none⟩) nz nz, .slice (some ⟨ztB, 0, none⟩) nz nz, .slice (some ⟨zvB, 0, none⟩) nz nz, u29, .int .i64 (kz za), .pointer (some ⟨bz za, 0, none⟩), .int .i64 ns, .int .i64 sa, u34, u35, u36, u37, u38, u39, u40, u41, u42, u43, u44, u45, u46, u47, u48, u49, u50, u51, u52, u53, u54, u55, u56, u57, u58, u59, u60, u61, u62, u63, u64, u65, u66, u67, u68, u69, u70, u71, u72, u73, u74, u75, u76, u77, u78, u79, u80, u81, u82, u83, u84, u85, u86, u87, u88, u89, u90, u91, u92, u93, u94, u95, u96, u97, u98, u99, u100, u101, u102, u103, u104, u105, u106, u107, u108, u109, u110, u111, u112, u113, u114, u115, u116, u117, u118, u119, u120, u121, u122, u123, u124, u125, u126, u127, u128, u129, u130, u131, u132, u133, u134, u135, u136, u137, u138, u139, u140, u141, u142, u143, u144, u145, u146, u147, u148, u149, u150, u151, u152, u153, u154, u155, u156, u157, u158, u159, u160, u161, u162, u163, u164, u165, u166, u167, u168, u169, u170, u171, u172, u173, u174, u175, u176, u177, u178, u179, u180, u181, u182, u183, u184, u185, u186, u187, u188, u189, u190, u191, u192, u193, u194, u195, u196, u197, u198, u199, u200, u201, u202, u203, u204, u205, u206, u207, u208, u209, u210, u211, u212, u213, u214, u215, u216, u217, u218, u219, u220, u221, u222, u223, u224, u225, u226, u227, u228, u229, u230, u231, u232, u233, u234, u235, u236, u237, u238, u239, u240, u241, u242, u243, u244, u245, u246, u247, u248, u249, u250, u251, u252, u253, u254, u255, u256, u257, u258, u259, u260, u261, u262, u263, u264, u265, u266, u267, u268, u269, u270, u271, u272, u273, u274, u275, u276, u277, u278, u279, u280, u281, u282, u283, u284, u285, u286, u287, u288, u289, u290, u291, u292, u293, u294, u295, u296, u297, u298, u299, u300, u301, u302, u303, u304, u305, u306, u307, u308, u309, u310, u311, u312, u313, u314, u315, u316, u317, u318, u319, u320, u321, u322, u323, u324, u325, u326, u327, u328, u329, u330, u331, u332, u333, u334, u335, u336, u337, u338, u339, u340, u341, u342, u343, u344, u345, u346, u347, u348, u349, u350, u351, u352, u353, u354, u355, u356, u357, u358, u359, u360, u361, u362, u363, u364, u365, u366, u367, u368, u369, u370, u371, u372, u373, u374, u375, u376, u377, u378, u379, u380, u381, u382, u383, u384, u385, u386, u387, u388, u389, u390, u391, u392, u393, u394, u395, u396, u397, u398, u399, u400, u401, u402, u403, u404, u405, u406, u407, u408, u409, u410, u411, u412, u413, u414, u415, u416, u417, u418, u419, u420, u421, u422, u423, u424, u425, u426, u427, u428, u429, u430, u431, u432, u433, u434, u435, u436, u437, u438, u439, u440, u441, u442, u443, u444, u445, u446, u447, u448, u449, u450, u451, u452, u453, u454, u455, u456, u457, u458, u459, u460, u461, u462, u463, u464, u465, u466, u467, u468, u469, u470, u471, u472, u473, u474, u475, u476, u477, u478, u479, u480, u481, u482, u483, u484, u485, u486, u487, u488, u489, u490, u491, u492, u493, u494, u495, u496, u497, u498, u499, u500, u501, u502, u503, u504, u505, u506, u507, u508, u509, u510, u511, u512, u513, u514, u515, u516, u517, u518, u519, u520, u521, u522, u523, u524, u525, u526, u527, u528, u529, u530, u531, u532, u533, u534, u535, u536, u537, u538, u539, u540, u541, u542, u543, u544, u545, u546, u547, u548, u549, u550, u551, u552, u553, u554, u555, u556, u557, u558, u559, u560, u561, u562, u563, u564, u565, u566, u567, u568, u569, u570, u571, u572, u573, u574, u575, u576, u577, u578, u579, u580, u581, u582, u583, u584, u585, u586], []⟩ w := by
  have hm5 := Q.hm5
  have mk1 := fun w => make22 w ns (by omega)
  have mk2 := fun w => make28 w ns (by omega)
  obtain ⟨hk1, _, hk3⟩ := mk3_own w ns 33
  have hz := mk3_size w ns 33
  have L0 := mk3_laid w ns 33 14 (fun j => 3 * j + 1)
  obtain ⟨w1, hw1⟩ : ∃ p, p = mk3 w ns 33 := ⟨_, rfl⟩
  rw [← hw1] at hk1 hk3 hz L0
  conv => arg 2; whnf
  go_upto_region 26 with fail
  rename_i KO hKO KI hKI
  have hK' := hidden hKO
  clear hKO
  have e1 : ((w.alloc (newRow' (.int .i64 0) ns 2)).alloc (newRow' (.int .i64 0) ns 2)).alloc (newRow' (.pointer none) ns 33) = w1 := hw1.symm
  rw [e1]
  go_wp2_with fail
  go_loopw [37] (fun i wr => ∃ (k : Nat) (blk : Nat → Nat), k ≤ ns ∧ i = .int .i64 k ∧ Laid w1 wr w.heap.size (w.heap.size + 2) ns 14 (fun j => 3 * j + 1) blk k) (fun i _ => ns - (intOf i).toNat)
  case atStart => exact ⟨0, fun _ => 0, by omega, rfl, L0⟩
  case round =>
    obtain ⟨k, blk, hk, rfl, L⟩ := hrel
    by_cases hlt : k < ns
    · obtain ⟨v1, e1⟩ := L.xk k hlt
      obtain ⟨v2, e2⟩ := L.xv k hlt
      have f1 : wr.frozen? ⟨w.heap.size, k, none⟩ = false := (L.fr.frozen _ _ (by omega)).trans (hk1.fz (by simp; omega) k)
      have f2 : wr.frozen? ⟨w.heap.size + 2, k, none⟩ = false := (L.fr.frozen _ _ (by omega)).trans (hk3.fz (by simp; omega) k)
      have lr : w.heap.size + 3 ≤ wr.heap.size := by have := L.fr.size; omega
      have sl : ∀ v o, Below wr.heap.size (wr.setCell ⟨w.heap.size, k, none⟩ v) ((wr.setCell ⟨w.heap.size, k, none⟩ v).alloc o) := fun v o => by
        have h := below_alloc (wr.setCell ⟨w.heap.size, k, none⟩ v) o
        rw [World.size_setCell] at h
        exact h
      have c2 : ∀ v o, ((wr.setCell ⟨w.heap.size, k, none⟩ v).alloc o).cell? ⟨w.heap.size + 2, k, none⟩ = some v2 := fun v o => by
        rw [(sl v o).cell (by show w.heap.size + 2 < _; omega)]
        exact (FrO.setCell wr w.heap.size k v).some e2 (by omega)
      have g2 : ∀ v o, ((wr.setCell ⟨w.heap.size, k, none⟩ v).alloc o).frozen? ⟨w.heap.size + 2, k, none⟩ = false := fun v o => by
        rw [(sl v o).frozen (by show w.heap.size + 2 < _; omega)]
        exact (World.frozen?_setCell ..).trans f2
      go_wp2
      refine ⟨⟨k + 1, (fun j => if j = k then wr.heap.size else blk j), by omega, rfl, ?_⟩, by simp only [intOf]; omega⟩
      exact L.step hlt (by omega) (by omega) (by omega) _ 38 rfl (fun o ho => ⟨_, Array.getElem?_eq_getElem (by simpa using ho)⟩)
    · have hkm : k = ns := by omega
      subst hkm
      go_wp2_with fail
      refine hK'.out _ _ ?_
      clear hK'
      have c1 := L.cv sa hsa
      obtain ⟨v3, c3⟩ := L.cx sa hsa 1 (by omega)
      have f3 := L.fz sa hsa 1
      have hl := L.lo sa hsa
      have mk4 := fun w => make39 w m (by omega)
      go_upto_region 33 with fail
      rename_i K hK
      have hK2 := hidden hK
      clear hK
      go_wp2_with fail
      refine hK2.out _ _ ?_
      clear hK2
      obtain ⟨W6, hW6⟩ : ∃ p, p = (wr.setCell ⟨blk sa, 1, none⟩ (.int .i64 (-7))).alloc (newRow' entZ (m * 3) 61) := ⟨_, rfl⟩
      rw [← hW6]
      have s5 : (wr.setCell ⟨blk sa, 1, none⟩ (.int .i64 (-7))).heap.size = wr.heap.size := World.size_setCell ..
      obtain ⟨fe, xe⟩ := make39_at (wr.setCell ⟨blk sa, 1, none⟩ (.int .i64 (-7))) (m * 3)
      rw [← hW6, s5] at fe xe
      have s6 : W6.heap.size = wr.heap.size + 1 := by rw [hW6, size_alloc', s5]
      have F6 : FrO (wr.setCell ⟨blk sa, 1, none⟩ (.int .i64 (-7))) W6 (fun _ _ => False) := by rw [hW6]; exact FrO.of_below (below_alloc _ _) _
      have L' := L
      rw [hw1] at L'
      have H5 := lot_of L' (fun i j h => by show (3 * (i : Int) + 1) < 3 * (j : Int) + 1; omega) hsa (by omega) (-7)
      have H6 := H5.kept F6 (fun _ _ _ h => h)
      have FZ : FrO w W6 (fun _ _ => False) := by
        have G0 : FrO w w1 (fun _ _ => False) := by rw [hw1]; exact FrO.of_below (mk3_below w k 33) _
        have G1 := ((G0.trans L.fr).trans (FrO.setCell wr (blk sa) 1 (.int .i64 (-7)))).trans F6
        refine G1.strike (fun b o hb h => ?_)
        rcases h with ((h | h) | h) | h
        · exact h
        · omega
        · omega
        · exact h
      have Z6 := Z.kept FZ (fun _ _ _ h => h)
      have lw := L.fr.size
      have zb1 := Z.ok.bl
      have zb2 := Z.ot.bl
      have zb3 := Z.ov.bl
      have zb4 : bz za < w.heap.size := lt_of_cell Z.x0
      have hBw : B ≤ w.heap.size := by have := Z.lk; omega
      have SA := sitA_of Z6 H6 zb1 zb2 zb3 zb4 hBw (by omega) (by omega) (by omega) (by omega)
      have QQ := Q.kept FZ hBw
      exact t0c B _ _ wr.heap.size _ _ hint useHint ca ga lad cn cc gn gc lc m p nz k sa za _ _ _ _ _ _ _ _ _ _ _ _ w0 W6 ls gs _ _ _ _ cs _ _ SA Q.hm5 Q.hp Q.hlc Q.hcc Q.hgc Q.lcs Q.lgs Q.hg0 Q.hg1 (Q.hls.at_ FZ (by omega)) (Q.hcs.at_ FZ (by omega)) (Q.hgs.at_ FZ (by omega)) Q.hr (by omega) fe xe (by omega) (fun b hb => by
        simp only [List.mem_cons, List.not_mem_nil, or_false] at hb
        omega) QQ.hB Q.hh1 Q.hh2 _ _ _ _ _ _ _ _ _ _ _ _ _ _ _ _ _ _ _ _ _ _ _ _ _ _ _ _ _ _ _ _ _ _ _ _ _ _ _ _ _ _ _ _ _ _ _ _ _ _ _ _ _ _ _ _ _ _ _ _ _ _ _ _ _ _ _ _ _ _ _ _ _ _ _ _ _ _ _ _ _ _ _ _ _ _ _ _ _ _ _ _ _ _ _ _ _ _ _ _ _ _ _ _ _ _ _ _ _ _ _ _ _ _ _ _ _ _ _ _ _ _ _ _ _ _ _ _ _ _ _ _ _ _ _ _ _ _ _ _ _ _ _ _ _ _ _ _ _ _ _ _ _ _ _ _ _ _ _ _ _ _ _ _ _ _ _ _ _ _ _ _ _ _ _ _ _ _ _ _ _ _ _ _ _ _ _ _ _ _ _ _ _ _ _ _ _ _ _ _ _ _ _ _ _ _ _ _ _ _ _ _ _ _ _ _ _ _ _ _ _ _ _ _ _ _ _ _ _ _ _ _ _ _ _ _ _ _ _ _ _ _ _ _ _ _ _ _ _ _ _ _ _ _ _ _ _ _ _ _ _ _ _ _ _ _ _ _ _ _ _ _ _ _ _ _ _ _ _ _ _ _ _ _ _ _ _ _ _ _ _ _ _ _ _ _ _ _ _ _ _ _ _ _ _ _ _ _ _ _ _ _ _ _ _ _ _ _ _ _ _ _ _ _ _ _ _ _ _ _ _ _ _ _ _ _ _ _ _ _ _ _ _ _ _ _ _ _ _ _ _ _ _ _ _ _ _ _ _ _ _ _ _ _ _ _ _ _ _ _ _ _ _ _ _ _ _ _ _ _ _ _ _ _ _ _ _ _ _ _ _ _ _ _ _ _ _ _ _ _ _ _ _ _ _ _ _ _ _ _ _ _ _ _ _ _ _ _ _ _ _ _ _ _ _ _ _ _ _ _ _ _ _ _ _ _ _ _ _ _ _ _ _ _ _ _ _ _ _ _ _ _ _ _ _ _ _ _ _ _ _ _ _ _ _ _ _ _ _ _ _ _ _ _ _ _ _ _ _ _ _ _ _ _ _ _ _ _ _ _ _ _ _ _ _ _ _ _ _ _ _ _ _ _ _ _ _ _ _ _ _ _ _ _ _ _ _ _ _ _ _ _ _ _ _ _ _ _ _ _ _ _ _ _ _ _ _ _ _ _ _ _ _ _ _ _ _ _ _ _ _ _ _ _ _ _ _ _ _ _ _ _ _ _ _ _
set_option maxRecDepth 1000000 in
set_option maxHeartbeats 3200000 in
theorem t0b1 (B : Nat) (hint : Int) (useHint : Bool) (ca ga : Option Addr) (lad : Addr) (cn cc gn gc lc m p nz za zkB ztB zvB s1 s2 : Nat) (kz : Nat → Int) (bz : Nat → Nat) (w0 w : World) (ls gs : List Int) (cs : List Bool)
    (Q : Ask w0 w B hint ca ga lad cn cc gn gc lc m p ls gs cs) (Z : Lot w B zkB ztB zvB nz za 6 kz bz 999)
    (hnz : nz ≤ 4) (hza : za < nz) (hs1 : s1 < 256) (hs2 : s2 < 256)
    (u0 u3 u8 u9 u10 u11 u12 u13 u14 u15 u16 u17 u18 u19 u24 u29 u32 u33 u34 u35 u36 u37 u38 u39 u40 u41 u42 u43 u44 u45 u46 u47 u48 u49 u50 u51 u52 u53 u54 u55 u56 u57 u58 u59 u60 u61 u62 u63 u64 u65 u66 u67 u68 u69 u70 u71 u72 u73 u74 u75 u76 u77 u78 u79 u80 u81 u82 u83 u84 u85 u86 u87 u88 u89 u90 u91 u92 u93 u94 u95 u96 u97 u98 u99 u100 u101 u102 u103 u104 u105 u106 u107 u108 u109 u110 u111 u112 u113 u114 u115 u116 u117 u118 u119 u120 u121 u122 u123 u124 u125 u126 u127 u128 u129 u130 u131 u132 u133 u134 u135 u136 u137 u138 u139 u140 u141 u142 u143 u144 u145 u146 u147 u148 u149 u150 u151 u152 u153 u154 u155 u156 u157 u158 u159 u160 u161 u162 u163 u164 u165 u166 u167 u168 u169 u170 u171 u172 u173 u174 u175 u176 u177 u178 u179 u180 u181 u182 u183 u184 u185 u186 u187 u188 u189 u190 u191 u192 u193 u194 u195 u196 u197 u198 u199 u200 u201 u202 u203 u204 u205 u206 u207 u208 u209 u210 u211 u212 u213 u214 u215 u216 u217 u218 u219 u220 u221 u222 u223 u224 u225 u226 u227 u228 u229 u230 u231 u232 u233 u234 u235 u236 u237 u238 u239 u240 u241 u242 u243 u244 u245 u246 u247 u248 u249 u250 u251 u252 u253 u254 u255 u256 u257 u258 u259 u260 u261 u262 u263 u264 u265 u266 u267 u268 u269 u270 u271 u272 u273 u274 u275 u276 u277 u278 u279 u280 u281 u282 u283 u284 u285 u286 u287 u288 u289 u290 u291 u292 u293 u294 u295 u296 u297 u298 u299 u300 u301 u302 u303 u304 u305 u306 u307 u308 u309 u310 u311 u312 u313 u314 u315 u316 u317 u318 u319 u320 u321 u322 u323 u324 u325 u326 u327 u328 u329 u330 u331 u332 u333 u334 u335 u336 u337 u338 u339 u340 u341 u342 u343 u344 u345 u346 u347 u348 u349 u350 u351 u352 u353 u354 u355 u356 u357 u358 u359 u360 u361 u362 u363 u364 u365 u366 u367 u368 u369 u370 u371 u372 u373 u374 u375 u376 u377 u378 u379 u380 u381 u382 u383 u384 u385 u386 u387 u388 u389 u390 u391 u392 u393 u394 u395 u396 u397 u398 u399 u400 u401 u402 u403 u404 u405 u406 u407 u408 u409 u410 u411 u412 u413 u414 u415 u416 u417 u418 u419 u420 u421 u422 u423 u424 u425 u426 u427 u428 u429 u430 u431 u432 u433 u434 u435 u436 u437 u438 u439 u440 u441 u442 u443 u444 u445 u446 u447 u448 u449 u450 u451 u452 u453 u454 u455 u456 u457 u458 u459 u460 u461 u462 u463 u464 u465 u466 u467 u468 u469 u470 u471 u472 u473 u474 u475 u476 u477 u478 u479 u480 u481 u482 u483 u484 u485 u486 u487 u488 u489 u490 u491 u492 u493 u494 u495 u496 u497 u498 u499 u500 u501 u502 u503 u504 u505 u506 u507 u508 u509 u510 u511 u512 u513 u514 u515 u516 u517 u518 u519 u520 u521 u522 u523 u524 u525 u526 u527 u528 u529 u530 u531 u532 u533 u534 u535 u536 u537 u538 u539 u540 u541 u542 u543 u544 u545 u546 u547 u548 u549 u550 u551 u552 u553 u554 u555 u556 u557 u558 u559 u560 u561 u562 u563 u564 u565 u566 u567 u568 u569 u570 u571 u572 u573 u574 u575 u576 u577 u578 u579 u580 u581 u582 u583 u584 u585 u586 : Value) :
    Code.wp Yba.prog (tailAt 21 (bodyOf Yba.f3)) (bodyPost Yba.prog Yba.f3 fun e w' => e = .returned (.bool true) ∧ Below B w0 w') ⟨#[u0, .slice ca cn cc, .slice ga gn gc, u3, .bool useHint, .int .i64 hint, .int .u8 (s1 : Nat), .int .u8 (s2 : Nat), u8, u9, u10, u11, u12, u13, u14, u15, u16, u17, u18, u19, .bool false, .slice (some lad) m lc, .int .i64 m, .int .i64 p, u24, .int .i64 za, .slice (some ⟨zkB, 0, none⟩) nz nz, .slice (some ⟨ztB, 0, none⟩) nz nz, .slice (some ⟨zvB, 0, none⟩) nz nz, u29, .int .i64 (kz za), .pointer (some ⟨bz za, 0, none⟩), u32, u33, u34, u35, u36, u37, u38, u39, u40, u41, u42, u43, u44, u45, u46, u47, u48, u49, u50, u51, u52, u53, u54, u55, u56, u57, u58, u59, u60, u61, u62, u63, u64, u65, u66, u67, u68, u69, u70, u71, u72, u73, u74, u75, u76, u77, u78, u79, u80, u81, u82, u83, u84, u85, u86, u87, u88, u89, u90, u91, u92, u93, u94, u95, u96, u97, u98, u99, u100, u101, u102, u103, u104, u105, u106, u107, u108, u109, u110, u111, u112, u113, u114, u115, u116, u117, u118, u119, u120, u121, u122, u123, u124, u125, u126, u127, u128, u129, u130, u131, u132, u133, u134, u135, u136, u137, u138, u139, u140, u141, u142, u143, u144, u145, u146, u147, u148, u149, u150, u151, u152, u153, u154, u155, u156, u157, u158, u159, u160, u161, u162, u163, u164, u165, u166, u167, u168, u169, u170, u171, u172, u173, u174, u175, u176, u177, u178, u179, u180, u181, u182, u183, u184, u185, u186, u187, u188, u189, u190, u191, u192, u193, u194, u195, u196, u197, u198, u199, u200, u201, u202, u203, u204, u205, u206, u207, u208, u209, u210, u211, u212, u213, u214, u215, u216, u217, u218, u219, u220, u221, u222, u223, u224, u225, u226, u227, u228, u229, u230, u231, u232, u233, u234, u235, u236, u237, u238, u239, u240, u241, u242, u243, u244, u245, u246, u247, u248, u249, u250, u251, u252, u253, u254, u255, u256, u257, u258, u259, u260, u261, u262, u263, u264, u265, u266, u267, u268, u269, u270, u271, u272, u273, u274, u275, u276, u277, u278, u279, u280, u281, u282, u283, u284, u285, u286, u287, u288, u289, u290, u291, u292, u293, u294, u295, u296, u297, u298, u299, u300, u301, u302, u303, u304, u305, u306, u307, u308, u309, u310, u311, u312, u313, u314, u315, u316, u317, u318, u319, u320, u321, u322, u323, u324, u325, u326, u327, u328, u329, u330, u331, u332, u333, u334, u335, u336, u337, u338, u339, u340, u341, u342, u343, u344, u345, u346, u347, u348, u349, u350, u351, u352, u353, u354, u355, u356, u357, u358, u359, u360, u361, u362, u363, u364, u365, u366, u367, u368, u369, u370, u371, u372, u373, u374, u375, u376, u377, u378, u379, u380, u381, u382, u383, u384, u385, u386, u387, u388, u389, u390, u391, u392, u393, u394, u395, u396, u397, u398, u399, u400, u401, u402, u403, u404, u405, u406, u407, u408, u409, u410, u411, u412, u413, u414, u415, u416, u417, u418, u419, u420, u421, u422, u423, u424, u425, u426, u427, u428, u429, u430, u431, u432, u433, u434, u435, u436, u437, u438, u439, u440, u441, u442, u443, u444, u445, u446, u447, u448, u449, u450, u451, u452, u453, u454, u455, u456, u457, u458, u459, u460, u461, u462, u463, u464, u465, u466, u467, u468, u469, u470, u471, u472, u473, u474, u475, u476, u477, u478, u479, u480, u481, u482, u483, u484, u485, u486, u487, u488, u489, u490, u491, u492, u493, u494, u495, u496, u497, u498, u499, u500, u501, u502, u503, u504, u505, u506, u507, u508, u509, u510, u511, u512, u513, u514, u515, u516, u517, u518, u519, u520, u521, u522, u523, u524, u525, u526, u527, u528, u529, u530, u531, u532, u533, u534, u535, u536, u537, u538, u539, u540, u541, u542, u543, u544, u545, u546, u547, u548, u549, u550, u551, u552, u553, u554, u555, u556, u557, u558, u559, u560, u561, u562, u563, u564, u565, u566, u567, u568, u569, u570, u571, u572, u573, u574, u575, u576, u577, u578, u579, u580, u581, u582, u583, u584, u585, u586], []⟩ w := by
  conv => arg 2; whnf
  go_upto_region 22 with fail
  rename_i K hK
  have hK' := hidden hK
  clear hK
  go_wp2_with fail
  refine hK'.out _ _ ?_
  clear hK'
  have e1 : (1 + (s1 : Int) % 4) = ((1 + s1 % 4 : Nat) : Int) := by omega
  have e2 : (s2 : Int) % ((1 + s1 % 4 : Nat) : Int) = ((s2 % (1 + s1 % 4) : Nat) : Int) := (Int.natCast_emod ..).symm
  rw [e1, e2]
  exact t0b B hint useHint ca ga lad cn cc gn gc lc m p nz za zkB ztB zvB (1 + s1 % 4) (s2 % (1 + s1 % 4)) kz bz w0 w ls gs cs Q Z (by omega) (Nat.mod_lt _ (by omega)) hnz hza _ _ _ _ _ _ _ _ _ _ _ _ _ _ _ _ _ _ _ _ _ _ _ _ _ _ _ _ _ _ _ _ _ _ _ _ _ _ _ _ _ _ _ _ _ _ _ _ _ _ _ _ _ _ _ _ _ _ _ _ _ _ _ _ _ _ _ _ _ _ _ _ _ _ _ _ _ _ _ _ _ _ _ _ _ _ _ _ _ _ _ _ _ _ _ _ _ _ _ _ _ _ _ _ _ _ _ _ _ _ _ _ _ _ _ _ _ _ _ _ _ _ _ _ _ _ _ _ _ _ _ _ _ _ _ _ _ _ _ _ _ _ _ _ _ _ _ _ _ _ _ _ _ _ _ _ _ _ _ _ _ _ _ _ _ _ _ _ _ _ _ _ _ _ _ _ _ _ _ _ _ _ _ _ _ _ _ _ _ _ _ _ _ _ _ _ _ _ _ _ _ _ _ _ _ _ _ _ _ _ _ _ _ _ _ _ _ _ _ _ _ _ _ _ _ _ _ _ _ _ _ _ _ _ _ _ _ _ _ _ _ _ _ _ _ _ _ _ _ _ _ _ _ _ _ _ _ _ _ _ _ _ _ _ _ _ _ _ _ _ _ _ _ _ _ _ _ _ _ _ _ _ _ _ _ _ _ _ _ _ _ _ _ _ _ _ _ _ _ _ _ _ _ _ _ _ _ _ _ _ _ _ _ _ _ _ _ _ _ _ _ _ _ _ _ _ _ _ _ _ _ _ _ _ _ _ _ _ _ _ _ _ _ _ _ _ _ _ _ _ _ _ _ _ _ _ _ _ _ _ _ _ _ _ _ _ _ _ _ _ _ _ _ _ _ _ _ _ _ _ _ _ _ _ _ _ _ _ _ _ _ _ _ _ _ _ _ _ _ _ _ _ _ _ _ _ _ _ _ _ _ _ _ _ _ _ _ _ _ _ _ _ _ _ _ _ _ _ _ _ _ _ _ _ _ _ _ _ _ _ _ _ _ _ _ _ _ _ _ _ _ _ _ _ _ _ _ _ _ _ _ _ _ _ _ _ _ _ _ _ _ _ _ _ _ _ _ _ _ _ _ _ _ _ _ _ _ _ _ _ _ _ _ _ _ _ _ _ _ _ _ _ _ _ _ _ _ _ _ _ _ _ _ _ _ _ _ _ _ _ _ _ _ _ _ _ _ _ _ _ _ _ _ _ _ _ _ _ _ _ _ _ _ _ _ _ _ _ _ _ _ _ _ _ _ _ _ _ _ _ _ _ _ _ _ _ _ _ _ _ _
end Go.Proofs.Ybulkexnkw
