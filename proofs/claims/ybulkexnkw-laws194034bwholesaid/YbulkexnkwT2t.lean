/-
  The law from the lists on.
-/
import Derived.Test.YbulkexnkwT2c
import Derived.Test.YbulkexnkwClose
namespace Go.Proofs.Ybulkexnkw
open Go.RowKit
set_option linter.unusedVariables false

set_option maxRecDepth 1000000 in
set_option maxHeartbeats 6400000 in
theorem t2_true (B z ch sh : Nat) (x r sz len hint : Int) (useHint : Bool) (bkB btB bvB qkB qvB lkB ltB lvB zkB ztB zvB okB ovB bkc btc bvc qkc qvc lkc ltc lvc zkc ztc zvc m qn ns nz : Nat) (oa : Option Addr) (on oc : Nat) (oVV : Value)
    (bk bt qk ok lk lt zk zt : List Int) (bps qps lps zps : List Nat) (ops : List (Option Nat)) (cL cQ sa za : Nat) (w0 w : World)
    (H : Sit w B z ch sh true x r sz len bkB btB bvB qkB qvB lkB ltB lvB zkB ztB zvB okB ovB bkc btc bvc qkc qvc lkc ltc lvc zkc ztc zvc m qn ns nz (.slice oa on oc) oVV bk bt qk ok lk lt zk zt bps qps lps zps ops cL cQ sa za) (hB : Below B w0 w) (hh1 : -9223372036854775808 ≤ hint) (hh2 : hint ≤ 9223372036854775807)
    (u0 u1 u2 u3 u6 u7 u8 u9 u10 u11 u12 u13 u14 u15 u16 u17 u18 u19 u21 u23 u24 u29 u30 u37 u39 u46 u47 u48 u49 u54 u55 u56 u57 u58 u59 u60 u61 u62 u63 u64 u65 u66 u67 u68 u69 u70 u71 u72 u73 u74 u75 u76 u77 u78 u79 u80 u81 u82 u83 u84 u85 u86 u87 u88 u89 u90 u91 u92 u93 u94 u95 u96 u97 u98 u99 u100 u101 u102 u103 u104 u105 u106 u107 u108 u109 u110 u111 u112 u113 u114 u115 u116 u117 u118 u119 u120 u121 u122 u123 u124 u125 u126 u127 u128 u129 u130 u131 u132 u133 u134 u135 u136 u137 u138 u139 u140 u141 u142 u143 u144 u145 u146 u147 u148 u149 u150 u151 u152 u153 u154 u155 u156 u157 u158 u159 u160 u161 u162 u163 u164 u165 u166 u167 u168 u169 u170 u171 u172 u173 u174 u175 u176 u177 u178 u179 u180 u181 u182 u183 u184 u185 u186 u187 u188 u189 u190 u191 u192 u193 u194 u195 u196 u197 u198 u199 u200 u201 u202 u203 u204 u205 u206 u207 u208 u209 u210 u211 u212 u213 u214 u215 u216 u217 u218 u219 u220 u221 u222 u223 u224 u225 u226 u227 u228 u229 u230 u231 u232 u233 u234 u235 u236 u237 u238 u239 u240 u241 u242 u243 u244 u245 u246 u247 u248 u249 u250 u251 u252 u253 u254 u255 u256 u257 u258 u259 u260 u261 u262 u263 u264 u265 u266 u267 u268 u269 u270 u271 u272 u273 u274 u275 u276 u277 u278 u279 u280 u281 u282 u283 u284 u285 u286 u287 u288 u289 u290 u291 u292 u293 u294 u295 u296 u297 u298 u299 u300 u301 u302 u303 u304 u305 u306 u307 u308 u309 u310 u311 u312 u313 u314 u315 u316 u317 u318 u319 u320 u321 u322 u323 u324 u325 u326 u327 u328 u329 u330 u331 u332 u333 u334 u335 u336 u337 u338 u339 u340 u341 u342 u343 u344 u345 u346 u347 u348 u349 u350 u351 u352 u353 u354 u355 u356 u357 u358 u359 u360 u361 u362 u363 u364 u365 u366 u367 u368 u369 u370 u371 u372 u373 u374 u375 u376 u377 u378 u379 u380 u381 u382 u383 u384 u385 u386 u387 u388 u389 u390 u391 u392 u393 u394 u395 u396 u397 u398 u399 u400 u401 u402 u403 u404 u405 u406 u407 u408 u409 u410 u411 u412 u413 u414 u415 u416 u417 u418 u419 u420 u421 u422 u423 u424 u425 u426 u427 u428 u429 u430 u431 u432 u433 u434 u435 u436 u437 u438 u439 u440 u441 u442 u443 u444 u445 u446 u447 u448 u449 u450 u451 u452 u453 u454 u455 u456 u457 u458 u459 u460 u461 u462 u463 u464 u465 u466 u467 u468 u469 u470 u471 u472 u473 u474 u475 u476 u477 u478 u479 u480 u481 u482 u483 u484 u485 u486 u487 u488 u489 u490 u491 u492 u493 u494 u495 u496 u497 u498 u499 u500 u501 u502 u503 u504 u505 u506 u507 u508 u509 u510 u511 u512 u513 u514 u515 u516 u517 u518 u519 u520 u521 u522 u523 u524 u525 u526 u527 u528 u529 u530 u531 u532 u533 u534 u535 u536 u537 u538 u539 u540 u541 u542 u543 u544 u545 u546 u547 u548 u549 u550 u551 u552 u553 u554 u555 u556 u557 u558 u559 u560 u561 u562 u563 u564 u565 u566 u567 u568 u569 u570 u571 u572 u573 u574 u575 u576 u577 u578 u579 u580 u581 u582 u583 u584 u585 u586 : Value) :
    Code.wp Yba.prog (tailAt 74 (bodyOf Yba.f3)) (bodyPost Yba.prog Yba.f3 fun e w' => e = .returned (.bool true) ∧ Below B w0 w') ⟨#[u0, u1, u2, u3, .bool useHint, .int .i64 hint, u6, u7, u8, u9, u10, u11, u12, u13, u14, u15, u16, u17, u18, u19, .bool false, u21, .int .i64 m, u23, u24, .int .i64 za, .slice (some ⟨zkB, 0, none⟩) nz zkc, .slice (some ⟨ztB, 0, none⟩) nz ztc, .slice (some ⟨zvB, 0, none⟩) nz zvc, u29, u30, .pointer (some ⟨z, 0, none⟩), .int .i64 ns, .int .i64 sa, .slice (some ⟨lkB, 0, none⟩) ns lkc, .slice (some ⟨ltB, 0, none⟩) ns ltc, .slice (some ⟨lvB, 0, none⟩) ns lvc, u37, .pointer (some ⟨sh, 0, none⟩), u39, .pointer (some ⟨ch, 0, none⟩), .slice oa on oc, .slice (some ⟨qkB, 0, none⟩) qn qkc, oVV, .slice (some ⟨qvB, 0, none⟩) qn qvc, .int .i64 cQ, u46, u47, u48, u49, .slice (some ⟨bkB, 0, none⟩) m bkc, .slice (some ⟨btB, 0, none⟩) m btc, .slice (some ⟨bvB, 0, none⟩) m bvc, .int .i64 cL, u54, u55, u56, u57, u58, u59, u60, u61, u62, u63, u64, u65, u66, u67, u68, u69, u70, u71, u72, u73, u74, u75, u76, u77, u78, u79, u80, u81, u82, u83, u84, u85, u86, u87, u88, u89, u90, u91, u92, u93, u94, u95, u96, u97, u98, u99, u100, u101, u102, u103, u104, u105, u106, u107, u108, u109, u110, u111, u112, u113, u114, u115, u116, u117, u118, u119, u120, u121, u122, u123, u124, u125, u126, u127, u128, u129, u130, u131, u132, u133, u134, u135, u136, u137, u138, u139, u140, u141, u142, u143, u144, u145, u146, u147, u148, u149, u150, u151, u152, u153, u154, u155, u156, u157, u158, u159, u160, u161, u162, u163, u164, u165, u166, u167, u168, u169, u170, u171, u172, u173, u174, u175, u176, u177, u178, u179, u180, u181, u182, u183, u184, u185, u186, u187, u188, u189, u190, u191, u192, u193, u194, u195, u196, u197, u198, u199, u200, u201, u202, u203, u204, u205, u206, u207, u208, u209, u210, u211, u212, u213, u214, u215, u216, u217, u218, u219, u220, u221, u222, u223, u224, u225, u226, u227, u228, u229, u230, u231, u232, u233, u234, u235, u236, u237, u238, u239, u240, u241, u242, u243, u244, u245, u246, u247, u248, u249, u250, u251, u252, u253, u254, u255, u256, u257, u258, u259, u260, u261, u262, u263, u264, u265, u266, u267, u268, u269, u270, u271, u272, u273, u274, u275, u276, u277, u278, u279, u280, u281, u282, u283, u284, u285, u286, u287, u288, u289, u290, u291, u292, u293, u294, u295, u296, u297, u298, u299, u300, u301, u302, u303, u304, u305, u306, u307, u308, u309, u310, u311, u312, u313, u314, u315, u316, u317, u318, u319, u320, u321, u322, u323, u324, u325, u326, u327, u328, u329, u330, u331, u332, u333, u334, u335, u336, u337, u338, u339, u340, u341, u342, u343, u344, u345, u346, u347, u348, u349, u350, u351, u352, u353, u354, u355, u356, u357, u358, u359, u360, u361, u362, u363, u364, u365, u366, u367, u368, u369, u370, u371, u372, u373, u374, u375, u376, u377, u378, u379, u380, u381, u382, u383, u384, u385, u386, u387, u388, u389, u390, u391, u392, u393, u394, u395, u396, u397, u398, u399, u400, u401, u402, u403, u404, u405, u406, u407, u408, u409, u410, u411, u412, u413, u414, u415, u416, u417, u418, u419, u420, u421, u422, u423, u424, u425, u426, u427, u428, u429, u430, u431, u432, u433, u434, u435, u436, u437, u438, u439, u440, u441, u442, u443, u444, u445, u446, u447, u448, u449, u450, u451, u452, u453, u454, u455, u456, u457, u458, u459, u460, u461, u462, u463, u464, u465, u466, u467, u468, u469, u470, u471, u472, u473, u474, u475, u476, u477, u478, u479, u480, u481, u482, u483, u484, u485, u486, u487, u488, u489, u490, u491, u492, u493, u494, u495, u496, u497, u498, u499, u500, u501, u502, u503, u504, u505, u506, u507, u508, u509, u510, u511, u512, u513, u514, u515, u516, u517, u518, u519, u520, u521, u522, u523, u524, u525, u526, u527, u528, u529, u530, u531, u532, u533, u534, u535, u536, u537, u538, u539, u540, u541, u542, u543, u544, u545, u546, u547, u548, u549, u550, u551, u552, u553, u554, u555, u556, u557, u558, u559, u560, u561, u562, u563, u564, u565, u566, u567, u568, u569, u570, u571, u572, u573, u574, u575, u576, u577, u578, u579, u580, u581, u582, u583, u584, u585, u586], []⟩ w := by
  obtain ⟨lbk, lbt, lbp, hm0, hm5⟩ := H.lm
  obtain ⟨lqk, lqp, hq0, hq5⟩ := H.lq
  obtain ⟨llk, llt, llp, hs0, hs5⟩ := H.ls
  obtain ⟨lzk, lzt, lzp, hz0, hz5⟩ := H.lz
  obtain ⟨lok, lop⟩ := H.lo
  have lon : ok.length = on := by
    obtain ⟨a, c, e, _⟩ := H.ook.e
    injection e with _ e _
    rw [e, ints_len]
  have hon : on ≤ 5000 := by omega
  have mk1 := fun w => make22 w on (by omega)
  have mk2 := fun w => make22 w qn (by omega)
  obtain ⟨wB, hwB⟩ : ∃ wB, wB = (w.alloc (newRow' (.int .i64 0) on 2)).alloc (newRow' (.int .i64 0) qn 2) := ⟨_, rfl⟩
  have hNB : Hid (wB.heap.size = w.heap.size + 2) := by
    show wB.heap.size = _
    rw [hwB, size_alloc', size_alloc']
  have hA : FrO w wB (fun _ _ => False) := by
    rw [hwB]
    exact (FrO.of_below (below_alloc w _) _).then (below_alloc _ _)
  have kst : Own wB w.heap.size (.slice (some ⟨w.heap.size, 0, none⟩) on on) (ints (List.replicate on 0)) := by
    rw [hwB, ← ints_zeros]
    exact (make_own w _ on 2 rfl).kept (FrO.of_below (below_alloc _ _) (fun _ _ => False)) (fun _ h => h)
  have kct : Own wB (w.heap.size + 1) (.slice (some ⟨w.heap.size + 1, 0, none⟩) qn qn) (ints (List.replicate qn 0)) := by
    rw [hwB, ← ints_zeros]
    have h := make_own (w.alloc (newRow' (.int .i64 0) on 2)) (.int .i64 0) qn 2 rfl
    rw [size_alloc' w] at h
    exact h
  have kbk := H.obk.kept hA (fun _ h => h)
  have kbt := H.obt.kept hA (fun _ h => h)
  have kbv := H.obv.kept hA (fun _ h => h)
  have kqk := H.oqk.kept hA (fun _ h => h)
  have kqv := H.oqv.kept hA (fun _ h => h)
  have klk := H.olk.kept hA (fun _ h => h)
  have klt := H.olt.kept hA (fun _ h => h)
  have klv := H.olv.kept hA (fun _ h => h)
  have kzk := H.ozk.kept hA (fun _ h => h)
  have kzt := H.ozt.kept hA (fun _ h => h)
  have kzv := H.ozv.kept hA (fun _ h => h)
  have kok := H.ook.kept hA (fun _ h => h)
  have kov := H.oov.kept hA (fun _ h => h)
  have fsB : ∀ o, wB.frozen? ⟨sh, o, none⟩ = false := fun o => (hA.frozen _ _ (lt_of_cell H.sh0)).trans (H.fsh o)
  have fzB : ∀ o, wB.frozen? ⟨z, o, none⟩ = false := fun o => (hA.frozen _ _ (lt_of_cell H.z1)).trans (H.fz o)
  have G0 : FrO wB wB (SD z sh 1) := FrO.refl _ _
  have zlt : z < w.heap.size := lt_of_cell H.z1
  have slt : sh < w.heap.size := lt_of_cell H.sh0
  have clt : ch < w.heap.size := lt_of_cell H.rank
  have hd : Hid (w.heap.size < wB.heap.size) := by show w.heap.size < _; rw [hNB.out]; omega
  conv => arg 2; whnf
  have C1 := hidden (clone7_any _ w.heap.size _ _ wB (kbk.kept G0 (fun o => (sd_row (H.nR _ (by simp))))) (by rw [ints_len]; omega) (ints_one _) (Nat.lt_of_lt_of_le hd.out G0.size))
  go_wp2_with fail
  rw [← hwB]
  refine C1.out.mono ?_
  rintro e w1 ⟨v1, b1, rfl, o1, h1, f1⟩
  clear C1
  obtain ⟨a1, c1, rfl, _⟩ := o1.e
  have G1 : FrO wB w1 (SD z sh 1) := G0.then h1
  have C2 := hidden (clone8_any _ w.heap.size _ _ w1 (kbv.kept G1 (fun o => (sd_row (H.nR _ (by simp))))) (by rw [ptrs_len, List.length_map]; omega) (ptrs_one _) (Nat.lt_of_lt_of_le hd.out G1.size))
  go_wp2_with fail
  refine C2.out.mono ?_
  rintro e w2 ⟨v2, b2, rfl, o2, h2, f2⟩
  clear C2
  obtain ⟨a2, c2, rfl, _⟩ := o2.e
  have G2 : FrO wB w2 (SD z sh 1) := G1.then h2
  have C3 := hidden (clone7_any _ w.heap.size _ _ w2 (kbt.kept G2 (fun o => (sd_row (H.nR _ (by simp))))) (by rw [ints_len]; omega) (ints_one _) (Nat.lt_of_lt_of_le hd.out G2.size))
  go_wp2_with fail
  refine C3.out.mono ?_
  rintro e w3 ⟨v3, b3, rfl, o3, h3, f3⟩
  clear C3
  obtain ⟨a3, c3, rfl, _⟩ := o3.e
  have G3 : FrO wB w3 (SD z sh 1) := G2.then h3
  have X1 : ∀ o, 2 ≤ o → o ≤ 2 + 3 → ∃ v, w3.cell? ⟨sh, o, none⟩ = some v := fun o h1 h2 => by
    obtain ⟨v, hv⟩ := H.shc o (by omega) (by omega)
    exact ⟨v, G3.some (hA.some hv (fun h => h)) (by have := H.n1; unfold SD; omega)⟩
  obtain ⟨u_a, x_a⟩ := X1 2 (by omega) (by omega)
  obtain ⟨u_b, x_b⟩ := X1 3 (by omega) (by omega)
  obtain ⟨u_c, x_c⟩ := X1 4 (by omega) (by omega)
  obtain ⟨u_d, x_d⟩ := X1 5 (by omega) (by omega)
  have fx : ∀ o, w3.frozen? ⟨sh, o, none⟩ = false := fun o => (G3.frozen _ _ (Nat.lt_of_lt_of_le slt hA.size)).trans (fsB o)
  obtain ⟨p1, hp1⟩ : ∃ p, p = ((((w3.setCell ⟨sh, 2, none⟩ (.slice a1 (ints bk).length c1)).setCell ⟨sh, 3, none⟩ (.slice a2 (ptrs (bps.map some)).length c2)).setCell ⟨sh, 4, none⟩ (.slice a3 (ints bt).length c3)).setCell ⟨sh, 5, none⟩ (.int .i64 0)) := ⟨_, rfl⟩
  have P1 : Put w3 p1 sh 2 (.slice a1 (ints bk).length c1) (.slice a2 (ptrs (bps.map some)).length c2) (.slice a3 (ints bt).length c3) := by
    rw [hp1]
    exact put_of w3 sh 2 _ _ _ X1
  have G3p : FrO wB p1 (SD z sh 2) := (G3.trans P1.fr).mono (fun _ _ h => by unfold SD at *; omega)
  -- next
  have C4 := hidden (clone7_any _ w.heap.size _ _ p1 (kok.kept G3p (fun o => (sd_row (H.nR _ (by simp))))) (by rw [ints_len]; omega) (ints_one _) (Nat.lt_of_lt_of_le hd.out G3p.size))
  go_wp2_with fail
  rw [← hp1]
  refine C4.out.mono ?_
  rintro e w4 ⟨v4, b4, rfl, o4, h4, f4⟩
  clear C4 x_a x_b x_c x_d fx X1 hp1
  obtain ⟨a4, c4, rfl, _⟩ := o4.e
  have G4 : FrO wB w4 (SD z sh 2) := G3p.then h4
  have C5 := hidden (clone8_any _ w.heap.size _ _ w4 (kov.kept G4 (fun o => (sd_row (H.nR _ (by simp))))) (by rw [ptrs_len]; omega) (ptrs_one _) (Nat.lt_of_lt_of_le hd.out G4.size))
  go_wp2_with fail
  refine C5.out.mono ?_
  rintro e w5 ⟨v5, b5, rfl, o5, h5, f5⟩
  clear C5
  obtain ⟨a5, c5, rfl, _⟩ := o5.e
  have G5 : FrO wB w5 (SD z sh 2) := G4.then h5
  have C6 := hidden (clone7_any _ w.heap.size _ _ w5 (kst.kept G5 (fun o => (by show ¬ SD z sh 2 _ o; unfold SD; omega))) (by rw [ints_len, List.length_replicate]; omega) (ints_one _) (Nat.lt_of_lt_of_le hd.out G5.size))
  go_wp2_with fail
  refine C6.out.mono ?_
  rintro e w6 ⟨v6, b6, rfl, o6, h6, f6⟩
  clear C6
  obtain ⟨a6, c6, rfl, _⟩ := o6.e
  have G6 : FrO wB w6 (SD z sh 2) := G5.then h6
  have X2 : ∀ o, 6 ≤ o → o ≤ 6 + 3 → ∃ v, w6.cell? ⟨sh, o, none⟩ = some v := fun o h1 h2 => by
    obtain ⟨v, hv⟩ := H.shc o (by omega) (by omega)
    exact ⟨v, G6.some (hA.some hv (fun h => h)) (by have := H.n1; unfold SD; omega)⟩
  obtain ⟨u_a, x_a⟩ := X2 6 (by omega) (by omega)
  obtain ⟨u_b, x_b⟩ := X2 7 (by omega) (by omega)
  obtain ⟨u_c, x_c⟩ := X2 8 (by omega) (by omega)
  obtain ⟨u_d, x_d⟩ := X2 9 (by omega) (by omega)
  have fx : ∀ o, w6.frozen? ⟨sh, o, none⟩ = false := fun o => (G6.frozen _ _ (Nat.lt_of_lt_of_le slt hA.size)).trans (fsB o)
  obtain ⟨p2, hp2⟩ : ∃ p, p = ((((w6.setCell ⟨sh, 6, none⟩ (.slice a4 (ints ok).length c4)).setCell ⟨sh, 7, none⟩ (.slice a5 (ptrs ops).length c5)).setCell ⟨sh, 8, none⟩ (.slice a6 (ints (List.replicate on 0)).length c6)).setCell ⟨sh, 9, none⟩ (.int .i64 0)) := ⟨_, rfl⟩
  have P2 : Put w6 p2 sh 6 (.slice a4 (ints ok).length c4) (.slice a5 (ptrs ops).length c5) (.slice a6 (ints (List.replicate on 0)).length c6) := by
    rw [hp2]
    exact put_of w6 sh 6 _ _ _ X2
  have G6p : FrO wB p2 (SD z sh 3) := (G6.trans P2.fr).mono (fun _ _ h => by unfold SD at *; omega)
  -- next
  have C7 := hidden (clone7_any _ w.heap.size _ _ p2 (kqk.kept G6p (fun o => (sd_row (H.nR _ (by simp))))) (by rw [ints_len]; omega) (ints_one _) (Nat.lt_of_lt_of_le hd.out G6p.size))
  go_wp2_with fail
  rw [← hp2]
  refine C7.out.mono ?_
  rintro e w7 ⟨v7, b7, rfl, o7, h7, f7⟩
  clear C7 x_a x_b x_c x_d fx X2 hp2
  obtain ⟨a7, c7, rfl, _⟩ := o7.e
  have G7 : FrO wB w7 (SD z sh 3) := G6p.then h7
  have C8 := hidden (clone8_any _ w.heap.size _ _ w7 (kqv.kept G7 (fun o => (sd_row (H.nR _ (by simp))))) (by rw [ptrs_len, List.length_map]; omega) (ptrs_one _) (Nat.lt_of_lt_of_le hd.out G7.size))
  go_wp2_with fail
  refine C8.out.mono ?_
  rintro e w8 ⟨v8, b8, rfl, o8, h8, f8⟩
  clear C8
  obtain ⟨a8, c8, rfl, _⟩ := o8.e
  have G8 : FrO wB w8 (SD z sh 3) := G7.then h8
  have C9 := hidden (clone7_any _ w.heap.size _ _ w8 (kct.kept G8 (fun o => (by show ¬ SD z sh 3 _ o; unfold SD; omega))) (by rw [ints_len, List.length_replicate]; omega) (ints_one _) (Nat.lt_of_lt_of_le hd.out G8.size))
  go_wp2_with fail
  refine C9.out.mono ?_
  rintro e w9 ⟨v9, b9, rfl, o9, h9, f9⟩
  clear C9
  obtain ⟨a9, c9, rfl, _⟩ := o9.e
  have G9 : FrO wB w9 (SD z sh 3) := G8.then h9
  have X3 : ∀ o, 10 ≤ o → o ≤ 10 + 3 → ∃ v, w9.cell? ⟨sh, o, none⟩ = some v := fun o h1 h2 => by
    obtain ⟨v, hv⟩ := H.shc o (by omega) (by omega)
    exact ⟨v, G9.some (hA.some hv (fun h => h)) (by have := H.n1; unfold SD; omega)⟩
  obtain ⟨u_a, x_a⟩ := X3 10 (by omega) (by omega)
  obtain ⟨u_b, x_b⟩ := X3 11 (by omega) (by omega)
  obtain ⟨u_c, x_c⟩ := X3 12 (by omega) (by omega)
  obtain ⟨u_d, x_d⟩ := X3 13 (by omega) (by omega)
  have fx : ∀ o, w9.frozen? ⟨sh, o, none⟩ = false := fun o => (G9.frozen _ _ (Nat.lt_of_lt_of_le slt hA.size)).trans (fsB o)
  obtain ⟨p3, hp3⟩ : ∃ p, p = ((((w9.setCell ⟨sh, 10, none⟩ (.slice a7 (ints qk).length c7)).setCell ⟨sh, 11, none⟩ (.slice a8 (ptrs (qps.map some)).length c8)).setCell ⟨sh, 12, none⟩ (.slice a9 (ints (List.replicate qn 0)).length c9)).setCell ⟨sh, 13, none⟩ (.int .i64 0)) := ⟨_, rfl⟩
  have P3 : Put w9 p3 sh 10 (.slice a7 (ints qk).length c7) (.slice a8 (ptrs (qps.map some)).length c8) (.slice a9 (ints (List.replicate qn 0)).length c9) := by
    rw [hp3]
    exact put_of w9 sh 10 _ _ _ X3
  have G9p : FrO wB p3 (SD z sh 4) := (G9.trans P3.fr).mono (fun _ _ h => by unfold SD at *; omega)
  -- next
  have C10 := hidden (clone7_any _ w.heap.size _ _ p3 (klk.kept G9p (fun o => (sd_row (H.nR _ (by simp))))) (by rw [ints_len]; omega) (ints_one _) (Nat.lt_of_lt_of_le hd.out G9p.size))
  go_wp2_with fail
  rw [← hp3]
  refine C10.out.mono ?_
  rintro e w10 ⟨v10, b10, rfl, o10, h10, f10⟩
  clear C10 x_a x_b x_c x_d fx X3 hp3
  obtain ⟨a10, c10, rfl, _⟩ := o10.e
  have G10 : FrO wB w10 (SD z sh 4) := G9p.then h10
  have C11 := hidden (clone9_any _ w.heap.size _ _ w10 (klv.kept G10 (fun o => (sd_row (H.nR _ (by simp))))) (by rw [ptrs_len, List.length_map]; omega) (ptrs_one _) (Nat.lt_of_lt_of_le hd.out G10.size))
  go_wp2_with fail
  refine C11.out.mono ?_
  rintro e w11 ⟨v11, b11, rfl, o11, h11, f11⟩
  clear C11
  obtain ⟨a11, c11, rfl, _⟩ := o11.e
  have G11 : FrO wB w11 (SD z sh 4) := G10.then h11
  have C12 := hidden (clone7_any _ w.heap.size _ _ w11 (klt.kept G11 (fun o => (sd_row (H.nR _ (by simp))))) (by rw [ints_len]; omega) (ints_one _) (Nat.lt_of_lt_of_le hd.out G11.size))
  go_wp2_with fail
  refine C12.out.mono ?_
  rintro e w12 ⟨v12, b12, rfl, o12, h12, f12⟩
  clear C12
  obtain ⟨a12, c12, rfl, _⟩ := o12.e
  have G12 : FrO wB w12 (SD z sh 4) := G11.then h12
  have X4 : ∀ o, 2 ≤ o → o ≤ 2 + 3 → ∃ v, w12.cell? ⟨z, o, none⟩ = some v := fun o h1 h2 => by
    obtain ⟨v, hv⟩ := H.zc o (by omega) (by omega)
    exact ⟨v, G12.some (hA.some hv (fun h => h)) (by have := H.n1; unfold SD; omega)⟩
  obtain ⟨u_a, x_a⟩ := X4 2 (by omega) (by omega)
  obtain ⟨u_b, x_b⟩ := X4 3 (by omega) (by omega)
  obtain ⟨u_c, x_c⟩ := X4 4 (by omega) (by omega)
  obtain ⟨u_d, x_d⟩ := X4 5 (by omega) (by omega)
  have fx : ∀ o, w12.frozen? ⟨z, o, none⟩ = false := fun o => (G12.frozen _ _ (Nat.lt_of_lt_of_le zlt hA.size)).trans (fzB o)
  obtain ⟨p4, hp4⟩ : ∃ p, p = ((((w12.setCell ⟨z, 2, none⟩ (.slice a10 (ints lk).length c10)).setCell ⟨z, 3, none⟩ (.slice a11 (ptrs (lps.map some)).length c11)).setCell ⟨z, 4, none⟩ (.slice a12 (ints lt).length c12)).setCell ⟨z, 5, none⟩ (.int .i64 0)) := ⟨_, rfl⟩
  have P4 : Put w12 p4 z 2 (.slice a10 (ints lk).length c10) (.slice a11 (ptrs (lps.map some)).length c11) (.slice a12 (ints lt).length c12) := by
    rw [hp4]
    exact put_of w12 z 2 _ _ _ X4
  have G12p : FrO wB p4 (SD z sh 5) := (G12.trans P4.fr).mono (fun _ _ h => by unfold SD at *; omega)
  -- next
  go_upto_region 80 with fail
  rename_i K hK
  have hK' := hidden hK
  clear hK
  have C13 := hidden (clone7_any _ w.heap.size _ _ p4 (kzk.kept G12p (fun o => (sd_row (H.nR _ (by simp))))) (by rw [ints_len]; omega) (ints_one _) (Nat.lt_of_lt_of_le hd.out G12p.size))
  go_wp2_with fail
  rw [← hp4]
  refine C13.out.mono ?_
  rintro e w13 ⟨v13, b13, rfl, o13, h13, f13⟩
  clear C13 x_a x_b x_c x_d fx X4 hp4
  obtain ⟨a13, c13, rfl, _⟩ := o13.e
  have G13 : FrO wB w13 (SD z sh 5) := G12p.then h13
  have C14 := hidden (clone10_any _ w.heap.size _ _ w13 (kzv.kept G13 (fun o => (sd_row (H.nR _ (by simp))))) (by rw [ptrs_len, List.length_map]; omega) (ptrs_one _) (Nat.lt_of_lt_of_le hd.out G13.size))
  go_wp2_with fail
  refine C14.out.mono ?_
  rintro e w14 ⟨v14, b14, rfl, o14, h14, f14⟩
  clear C14
  obtain ⟨a14, c14, rfl, _⟩ := o14.e
  have G14 : FrO wB w14 (SD z sh 5) := G13.then h14
  have C15 := hidden (clone7_any _ w.heap.size _ _ w14 (kzt.kept G14 (fun o => (sd_row (H.nR _ (by simp))))) (by rw [ints_len]; omega) (ints_one _) (Nat.lt_of_lt_of_le hd.out G14.size))
  go_wp2_with fail
  refine C15.out.mono ?_
  rintro e w15 ⟨v15, b15, rfl, o15, h15, f15⟩
  clear C15
  obtain ⟨a15, c15, rfl, _⟩ := o15.e
  have G15 : FrO wB w15 (SD z sh 5) := G14.then h15
  go_wp2_with fail
  obtain ⟨wT, hT⟩ : ∃ wT, wT = (((w15.alloc (.cells #[.int .i32 1, .int .i32 2, .int .i32 3] 21)).alloc (.cells #[.int .u64 1] 48)).alloc (.cells #[.slice (some ⟨w15.heap.size + 1, 0, none⟩) 1 1] 73)).alloc (.cells #[.slice none 0 0, .slice none 0 0, .int .i64 0, .pointer none, .int .u64 0, .int .u64 0, .int .i64 0, .slice a13 (ints zk).length c13, .slice a14 (ptrs (zps.map some)).length c14, .slice a15 (ints zt).length c15, .int .i64 0, .slice (some ⟨w15.heap.size, 0, none⟩) 3 3, .slice (some ⟨w15.heap.size + 1 + 1, 0, none⟩) 1 1, .int .u64 0] 79) := ⟨_, rfl⟩
  rw [← hT]
  refine hK'.out _ _ ?_
  clear hK'
  obtain ⟨PT, E0, g1, g2, g3, g4, g5⟩ := close_true H hNB.out hA lon o1 h1 f1 o2 h2 f2 o3 h3 f3 P1 o4 h4 f4 o5 h5 f5 o6 h6 f6 P2 o7 h7 f7 o8 h8 f8 o9 h9 f9 P3 o10 h10 f10 o11 h11 f11 o12 h12 f12 P4 o13 h13 f13 o14 h14 f14 o15 h15 f15 hT
  have hN := hNB.out
  have Bs := H.Bs
  have Bz := H.Bz
  have Bsh := H.Bsh
  have Bch := H.Bch
  have hBT : Below B w0 wT := hB.trans ((hA.below Bs (fun _ _ h => h.elim)).trans (E0.below (by omega) (fun b o h => by unfold SL at h; omega)))
  have qbk := kbk.bl
  have rbk := H.nR bkB (by simp)
  have qbt := kbt.bl
  have rbt := H.nR btB (by simp)
  have qbv := kbv.bl
  have rbv := H.nR bvB (by simp)
  have qqk := kqk.bl
  have rqk := H.nR qkB (by simp)
  have qqv := kqv.bl
  have rqv := H.nR qvB (by simp)
  have qlk := klk.bl
  have rlk := H.nR lkB (by simp)
  have qlt := klt.bl
  have rlt := H.nR ltB (by simp)
  have qlv := klv.bl
  have rlv := H.nR lvB (by simp)
  have qzk := kzk.bl
  have rzk := H.nR zkB (by simp)
  have qzt := kzt.bl
  have rzt := H.nR ztB (by simp)
  have qzv := kzv.bl
  have rzv := H.nR zvB (by simp)
  have qok := kok.bl
  have rok := H.nR okB (by simp)
  have qov := kov.bl
  have rov := H.nR ovB (by simp)
  have NR : ∀ b, b ∈ [bkB, btB, bvB, qkB, w.heap.size + 1, qvB, lkB, ltB, lvB, zkB, ztB, zvB, okB, w.heap.size, ovB] → ¬ (b = b2 ∨ b = b8 ∨ b = ch ∨ b = sh ∨ b = w15.heap.size + 1 + 1 + 1 ∨ b = z ∨ b = b11 ∨ b = b14) := by
    intro b hb
    simp only [List.mem_cons, List.not_mem_nil, or_false] at hb
    rcases hb with rfl | rfl | rfl | rfl | rfl | rfl | rfl | rfl | rfl | rfl | rfl | rfl | rfl | rfl | rfl <;> omega
  exact t2c_true _ _ _ _ _ _ _ _ _ _ _ _ _ _ _ _ _ _ _ _ _ _ _ _ _ _ _ _ _ _ _ _ _ _ _ _ _ _ _ _ _ _ _ _ _ _ _ _ _ _ _ _ _ _ _ _ _ _ _ _ _ _ _ okB _ ovB _ _ _ _ _ _ _ _ _ _ _ _ _ _ _ w0 _ PT lbp lqp llp lzp (by omega) (by rw [List.length_replicate]; omega) lop H.obk.cap H.obt.cap H.obv.cap H.oqk.cap (Nat.le_refl _) H.oqv.cap H.olk.cap H.olt.cap H.olv.cap H.ozk.cap H.ozt.cap H.ozv.cap (kbk.kept E0 (fun o => sl_row (H.nR _ (by simp)).1 (H.nR _ (by simp)).2.1)).row (kbt.kept E0 (fun o => sl_row (H.nR _ (by simp)).1 (H.nR _ (by simp)).2.1)).row (kbv.kept E0 (fun o => sl_row (H.nR _ (by simp)).1 (H.nR _ (by simp)).2.1)).row (kqk.kept E0 (fun o => sl_row (H.nR _ (by simp)).1 (H.nR _ (by simp)).2.1)).row (kct.kept E0 (fun o => sl_row (by omega) (by omega))).row (kqv.kept E0 (fun o => sl_row (H.nR _ (by simp)).1 (H.nR _ (by simp)).2.1)).row (klk.kept E0 (fun o => sl_row (H.nR _ (by simp)).1 (H.nR _ (by simp)).2.1)).row (klt.kept E0 (fun o => sl_row (H.nR _ (by simp)).1 (H.nR _ (by simp)).2.1)).row (klv.kept E0 (fun o => sl_row (H.nR _ (by simp)).1 (H.nR _ (by simp)).2.1)).row (kzk.kept E0 (fun o => sl_row (H.nR _ (by simp)).1 (H.nR _ (by simp)).2.1)).row (kzt.kept E0 (fun o => sl_row (H.nR _ (by simp)).1 (H.nR _ (by simp)).2.1)).row (kzv.kept E0 (fun o => sl_row (H.nR _ (by simp)).1 (H.nR _ (by simp)).2.1)).row (kok.kept E0 (fun o => sl_row (H.nR _ (by simp)).1 (H.nR _ (by simp)).2.1)).vwB (kst.kept E0 (fun o => sl_row (by omega) (by omega))).vwB (kov.kept E0 (fun o => sl_row (H.nR _ (by simp)).1 (H.nR _ (by simp)).2.1)).vwB NR hBT hh1 hh2 _ _ _ _ _ _ _ _ _ _ _ _ _ _ _ _ _ _ _ _ _ _ _ _ _ _ _ _ _ _ _ _ _ _ _ _ _ _ _ _ _ _ _ _ _ _ _ _ _ _ _ _ _ _ _ _ _ _ _ _ _ _ _ _ _ _ _ _ _ _ _ _ _ _ _ _ _ _ _ _ _ _ _ _ _ _ _ _ _ _ _ _ _ _ _ _ _ _ _ _ _ _ _ _ _ _ _ _ _ _ _ _ _ _ _ _ _ _ _ _ _ _ _ _ _ _ _ _ _ _ _ _ _ _ _ _ _ _ _ _ _ _ _ _ _ _ _ _ _ _ _ _ _ _ _ _ _ _ _ _ _ _ _ _ _ _ _ _ _ _ _ _ _ _ _ _ _ _ _ _ _ _ _ _ _ _ _ _ _ _ _ _ _ _ _ _ _ _ _ _ _ _ _ _ _ _ _ _ _ _ _ _ _ _ _ _ _ _ _ _ _ _ _ _ _ _ _ _ _ _ _ _ _ _ _ _ _ _ _ _ _ _ _ _ _ _ _ _ _ _ _ _ _ _ _ _ _ _ _ _ _ _ _ _ _ _ _ _ _ _ _ _ _ _ _ _ _ _ _ _ _ _ _ _ _ _ _ _ _ _ _ _ _ _ _ _ _ _ _ _ _ _ _ _ _ _ _ _ _ _ _ _ _ _ _ _ _ _ _ _ _ _ _ _ _ _ _ _ _ _ _ _ _ _ _ _ _ _ _ _ _ _ _ _ _ _ _ _ _ _ _ _ _ _ _ _ _ _ _ _ _ _ _ _ _ _ _ _ _ _ _ _ _ _ _ _ _ _ _ _ _ _ _ _ _ _ _ _ _ _ _ _ _ _ _ _ _ _ _ _ _ _ _ _ _ _ _ _ _ _ _ _ _ _ _ _ _ _ _ _ _ _ _ _ _ _ _ _ _ _ _ _ _ _ _ _ _ _ _ _ _ _ _ _ _ _ _ _ _ _ _ _ _ _ _ _ _ _ _ _ _ _ _ _ _ _ _ _ _ _ _ _ _ _ _ _ _ _ _ _ _ _ _ _ _ _ _ _ _ _ _ _ _ _ _ _ _ _ _ _ _ _ _ _ _ _ _ _ _ _ _ _ _ _ _ _ _ _ _ _ _ _ _ _ _ _ _ _ _ _ _ _ _ _ _ _ _ _ _ _ _ _ _ _ _ _ _ _ _ _ _ _ _ _ _ _ _ _ _

end Go.Proofs.Ybulkexnkw
