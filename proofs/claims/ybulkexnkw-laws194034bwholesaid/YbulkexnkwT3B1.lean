/-
  The law from the call of dropShaped on, where the shape and its size go.
-/
import Derived.Test.YbulkexnkwTl
import Derived.Deep.DeepCutAuto
import Derived.Deep.RegionWith
import Derived.BigRegion
namespace Go.Proofs.Ybulkexnkw
open Go.RowKit
set_option linter.unusedVariables false

set_option maxRecDepth 1000000 in
set_option maxHeartbeats 6400000 in
theorem t3B1_false (B tB z ch sh kb1 vb1 tb1 kb2 vb2 tb2 kb3 vb3 tb3 kb4 vb4 tb4 kb5 vb5 tb5 : Nat) (x r sz len slot hint : Int) (useHint : Bool) (bk bt qk qt ok ot lk lt zk zt : List Int) (bps qps lps zps : List Nat) (ops : List (Option Nat)) (cL cQ sa za pc : Nat) (pa : Option Addr)
    (m qn ns nz bkB btB bvB qkB qtB qvB lkB ltB lvB zkB ztB zvB okB otB ovB bkc btc bvc qkc qtc qvc lkc ltc lvc zkc ztc zvc : Nat) (oKV oTV oVV : Value) (w0 w : World) (hm1 : Hid (m = 1)) (hns : Hid (ns = 1))
    (P : Pre w B tB z ch sh kb1 vb1 tb1 kb2 vb2 tb2 kb3 vb3 tb3 kb4 vb4 tb4 kb5 vb5 tb5 false x r sz len slot bk bt qk qt ok ot lk lt zk zt bps qps lps zps ops cL cQ sa za pc pa)
    (lm : bps.length = m) (lq : qps.length = qn) (ls : lps.length = ns) (lz : zps.length = nz) (lo1 : ok.length ≤ 5000) (lo2 : ot.length ≤ 5000) (lo3 : ops.length ≤ 5000)
    (cbk : m ≤ bkc) (cbt : m ≤ btc) (cbv : m ≤ bvc) (cqk : qn ≤ qkc) (cqt : qn ≤ qtc) (cqv : qn ≤ qvc) (clk : ns ≤ lkc) (clt : ns ≤ ltc) (clv : ns ≤ lvc) (czk : nz ≤ zkc) (czt : nz ≤ ztc) (czv : nz ≤ zvc)
    (rbk : RowAt w bkB (ints bk)) (rbt : RowAt w btB (ints bt)) (rbv : RowAt w bvB (ptrs (bps.map some))) (rqk : RowAt w qkB (ints qk)) (rqt : RowAt w qtB (ints qt)) (rqv : RowAt w qvB (ptrs (qps.map some)))
    (rlk : RowAt w lkB (ints lk)) (rlt : RowAt w ltB (ints lt)) (rlv : RowAt w lvB (ptrs (lps.map some))) (rzk : RowAt w zkB (ints zk)) (rzt : RowAt w ztB (ints zt)) (rzv : RowAt w zvB (ptrs (zps.map some)))
    (rok : VwB w okB oKV (ints ok)) (rot : VwB w otB oTV (ints ot)) (rov : VwB w ovB oVV (ptrs ops))
    (nR : ∀ b, b ∈ [bkB, btB, bvB, qkB, qtB, qvB, lkB, ltB, lvB, zkB, ztB, zvB, okB, otB, ovB] → ¬ (b = vb1 ∨ b = vb2 ∨ b = ch ∨ b = sh ∨ b = tB ∨ b = z ∨ b = vb3 ∨ b = vb4))
    (hB : Below B w0 w)
    (u0 u1 u2 u3 u6 u7 u8 u9 u10 u11 u12 u13 u14 u15 u16 u17 u18 u19 u21 u23 u24 u29 u30 u37 u39 u46 u47 u48 u49 u54 u59 u60 u61 u62 u63 u64 u65 u66 u67 u68 u69 u70 u71 u72 u73 u74 u75 u76 u77 u78 u79 u80 u81 u82 u83 u84 u85 u86 u87 u88 u89 u90 u91 u92 u93 u94 u95 u96 u97 u98 u99 u100 u101 u102 u103 u104 u105 u106 u107 u108 u109 u110 u111 u112 u113 u114 u115 u116 u117 u118 u119 u120 u121 u122 u123 u124 u125 u126 u127 u128 u129 u130 u131 u132 u133 u134 u135 u136 u137 u138 u139 u140 u141 u142 u143 u144 u145 u146 u147 u148 u149 u150 u151 u152 u153 u154 u155 u156 u157 u158 u159 u160 u161 u162 u163 u164 u165 u166 u167 u168 u169 u170 u171 u172 u173 u174 u175 u176 u177 u178 u179 u180 u181 u182 u183 u184 u185 u186 u187 u188 u189 u190 u191 u192 u193 u194 u195 u196 u197 u198 u199 u200 u201 u202 u203 u204 u205 u206 u207 u208 u209 u210 u211 u212 u213 u214 u215 u216 u217 u218 u219 u220 u221 u222 u223 u224 u225 u226 u227 u228 u229 u230 u231 u232 u233 u234 u235 u236 u237 u238 u239 u240 u241 u242 u243 u244 u245 u246 u247 u248 u249 u250 u251 u252 u253 u254 u255 u256 u257 u258 u259 u260 u261 u262 u263 u264 u265 u266 u267 u268 u269 u270 u271 u272 u273 u274 u275 u276 u277 u278 u279 u280 u281 u282 u283 u284 u285 u286 u287 u288 u289 u290 u291 u292 u293 u294 u295 u296 u297 u298 u299 u300 u301 u302 u303 u304 u305 u306 u307 u308 u309 u310 u311 u312 u313 u314 u315 u316 u317 u318 u319 u320 u321 u322 u323 u324 u325 u326 u327 u328 u329 u330 u331 u332 u333 u334 u335 u336 u337 u338 u339 u340 u341 u342 u343 u344 u345 u346 u347 u348 u349 u350 u351 u352 u353 u354 u355 u356 u357 u358 u359 u360 u361 u362 u363 u364 u365 u366 u367 u368 u369 u370 u371 u372 u373 u374 u375 u376 u377 u378 u379 u380 u381 u382 u383 u384 u385 u386 u387 u388 u389 u390 u391 u392 u393 u394 u395 u396 u397 u398 u399 u400 u401 u402 u403 u404 u405 u406 u407 u408 u409 u410 u411 u412 u413 u414 u415 u416 u417 u418 u419 u420 u421 u422 u423 u424 u425 u426 u427 u428 u429 u430 u431 u432 u433 u434 u435 u436 u437 u438 u439 u440 u441 u442 u443 u444 u445 u446 u447 u448 u449 u450 u451 u452 u453 u454 u455 u456 u457 u458 u459 u460 u461 u462 u463 u464 u465 u466 u467 u468 u469 u470 u471 u472 u473 u474 u475 u476 u477 u478 u479 u480 u481 u482 u483 u484 u485 u486 u487 u488 u489 u490 u491 u492 u493 u494 u495 u496 u497 u498 u499 u500 u501 u502 u503 u504 u505 u506 u507 u508 u509 u510 u511 u512 u513 u514 u515 u516 u517 u518 u519 u520 u521 u522 u523 u524 u525 u526 u527 u528 u529 u530 u531 u532 u533 u534 u535 u536 u537 u538 u539 u540 u541 u542 u543 u544 u545 u546 u547 u548 u549 u550 u551 u552 u553 u554 u555 u556 u557 u558 u559 u560 u561 u562 u563 u564 u565 u566 u567 u568 u569 u570 u571 u572 u573 u574 u575 u576 u577 u578 u579 u580 u581 u582 u583 u584 u585 u586 : Value) :
    Code.wp Yba.prog (tailAt 85 (bodyOf Yba.f3)) (bodyPost Yba.prog Yba.f3 fun e w' => e = .returned (.bool true) ∧ Below B w0 w') ⟨#[u0, u1, u2, u3, .bool useHint, .int .i64 hint, u6, u7, u8, u9, u10, u11, u12, u13, u14, u15, u16, u17, u18, u19, .bool false, u21, .int .i64 m, u23, u24, .int .i64 za, .slice (some ⟨zkB, 0, none⟩) nz zkc, .slice (some ⟨ztB, 0, none⟩) nz ztc, .slice (some ⟨zvB, 0, none⟩) nz zvc, u29, u30, .pointer (some ⟨z, 0, none⟩), .int .i64 ns, .int .i64 sa, .slice (some ⟨lkB, 0, none⟩) ns lkc, .slice (some ⟨ltB, 0, none⟩) ns ltc, .slice (some ⟨lvB, 0, none⟩) ns lvc, u37, .pointer (some ⟨sh, 0, none⟩), u39, .pointer (some ⟨ch, 0, none⟩), .slice (some ⟨qkB, 0, none⟩) qn qkc, oKV, .slice (some ⟨qvB, 0, none⟩) qn qvc, oVV, .int .i64 cQ, u46, u47, u48, u49, .slice (some ⟨bkB, 0, none⟩) m bkc, .slice (some ⟨btB, 0, none⟩) m btc, .slice (some ⟨bvB, 0, none⟩) m bvc, .int .i64 cL, u54, .slice (some ⟨qtB, 0, none⟩) qn qtc, oTV, .pointer (some ⟨tB, 0, none⟩), .int .i64 slot, u59, u60, u61, u62, u63, u64, u65, u66, u67, u68, u69, u70, u71, u72, u73, u74, u75, u76, u77, u78, u79, u80, u81, u82, u83, u84, u85, u86, u87, u88, u89, u90, u91, u92, u93, u94, u95, u96, u97, u98, u99, u100, u101, u102, u103, u104, u105, u106, u107, u108, u109, u110, u111, u112, u113, u114, u115, u116, u117, u118, u119, u120, u121, u122, u123, u124, u125, u126, u127, u128, u129, u130, u131, u132, u133, u134, u135, u136, u137, u138, u139, u140, u141, u142, u143, u144, u145, u146, u147, u148, u149, u150, u151, u152, u153, u154, u155, u156, u157, u158, u159, u160, u161, u162, u163, u164, u165, u166, u167, u168, u169, u170, u171, u172, u173, u174, u175, u176, u177, u178, u179, u180, u181, u182, u183, u184, u185, u186, u187, u188, u189, u190, u191, u192, u193, u194, u195, u196, u197, u198, u199, u200, u201, u202, u203, u204, u205, u206, u207, u208, u209, u210, u211, u212, u213, u214, u215, u216, u217, u218, u219, u220, u221, u222, u223, u224, u225, u226, u227, u228, u229, u230, u231, u232, u233, u234, u235, u236, u237, u238, u239, u240, u241, u242, u243, u244, u245, u246, u247, u248, u249, u250, u251, u252, u253, u254, u255, u256, u257, u258, u259, u260, u261, u262, u263, u264, u265, u266, u267, u268, u269, u270, u271, u272, u273, u274, u275, u276, u277, u278, u279, u280, u281, u282, u283, u284, u285, u286, u287, u288, u289, u290, u291, u292, u293, u294, u295, u296, u297, u298, u299, u300, u301, u302, u303, u304, u305, u306, u307, u308, u309, u310, u311, u312, u313, u314, u315, u316, u317, u318, u319, u320, u321, u322, u323, u324, u325, u326, u327, u328, u329, u330, u331, u332, u333, u334, u335, u336, u337, u338, u339, u340, u341, u342, u343, u344, u345, u346, u347, u348, u349, u350, u351, u352, u353, u354, u355, u356, u357, u358, u359, u360, u361, u362, u363, u364, u365, u366, u367, u368, u369, u370, u371, u372, u373, u374, u375, u376, u377, u378, u379, u380, u381, u382, u383, u384, u385, u386, u387, u388, u389, u390, u391, u392, u393, u394, u395, u396, u397, u398, u399, u400, u401, u402, u403, u404, u405, u406, u407, u408, u409, u410, u411, u412, u413, u414, u415, u416, u417, u418, u419, u420, u421, u422, u423, u424, u425, u426, u427, u428, u429, u430, u431, u432, u433, u434, u435, u436, u437, u438, u439, u440, u441, u442, u443, u444, u445, u446, u447, u448, u449, u450, u451, u452, u453, u454, u455, u456, u457, u458, u459, u460, u461, u462, u463, u464, u465, u466, u467, u468, u469, u470, u471, u472, u473, u474, u475, u476, u477, u478, u479, u480, u481, u482, u483, u484, u485, u486, u487, u488, u489, u490, u491, u492, u493, u494, u495, u496, u497, u498, u499, u500, u501, u502, u503, u504, u505, u506, u507, u508, u509, u510, u511, u512, u513, u514, u515, u516, u517, u518, u519, u520, u521, u522, u523, u524, u525, u526, u527, u528, u529, u530, u531, u532, u533, u534, u535, u536, u537, u538, u539, u540, u541, u542, u543, u544, u545, u546, u547, u548, u549, u550, u551, u552, u553, u554, u555, u556, u557, u558, u559, u560, u561, u562, u563, u564, u565, u566, u567, u568, u569, u570, u571, u572, u573, u574, u575, u576, u577, u578, u579, u580, u581, u582, u583, u584, u585, u586], []⟩ w := by
  obtain ⟨a12, k12, ht12⟩ := P.t12
  have HD : Hid (Calls Yba.prog 11 #[.pointer (some ⟨tB, 0, none⟩), .pointer (some ⟨ch, 0, none⟩)] w fun e w' => e = .returned (.tuple #[]) ∧ DropB1 w w' tB z ch sh kb1 vb1 tb1 kb2 vb2 tb2 kb3 vb3 tb3 kb4 vb4 tb4 cL cQ sa za false bk bt qk qt lk lt zk zt bps qps lps zps) := dropB1_any tB z ch sh kb1 vb1 tb1 kb2 vb2 tb2 kb3 vb3 tb3 kb4 vb4 tb4 cL cQ sa za pc pa false x r sz slot len bk bt qk qt lk lt zk zt bps qps lps zps _ _ w (by rw [lm]; exact hm1.out) (by rw [ls]; exact hns.out) P.sh0 P.z1 ht12 P.t11 P.hpc P.nd P.hx1 P.hx2 P.hs1 P.hs2 P.hch P.fch P.O1 P.S1 P.O2 P.S2 P.O3 P.S3 P.O4 P.S4
  have c5w : w.cell? ⟨ch, 5, none⟩ = some (.int .i64 1) := P.hch.last.1
  conv => arg 2; whnf
  go_wp2_with fail
  refine HD.out.mono ?_
  rintro e w2 ⟨rfl, D⟩
  have F : Fr w w2 (fun b => b = vb1 ∨ b = vb2 ∨ b = ch ∨ b = sh ∨ b = tB ∨ b = z ∨ b = vb3 ∨ b = vb4) := D.b.fr
  have DB := D.b.both
  have hq2 : (false : Bool) = false := rfl
  have hBs : B ≤ w2.heap.size := Nat.le_trans P.Bs F.size
  have hB2 : Below B w0 w2 := hB.trans (F.below P.Bs P.BB)
  have rowK : ∀ {b : Nat} {vs : List Value}, RowAt w b vs → b ∈ [bkB, btB, bvB, qkB, qtB, qvB, lkB, ltB, lvB, zkB, ztB, zvB, okB, otB, ovB] → RowAt w2 b vs := fun h hb j hj => by
    have h1 := h j hj
    rw [F.cell _ j (lt_of_cell (h1.trans (List.getElem?_eq_getElem hj))) (nR _ hb)]
    exact h1
  have vwK : ∀ {b : Nat} {v : Value} {vs : List Value}, VwB w b v vs → b ∈ [bkB, btB, bvB, qkB, qtB, qvB, lkB, ltB, lvB, zkB, ztB, zvB, okB, otB, ovB] → VwB w2 b v vs := fun h hb => by
    obtain ⟨a, c, e, H⟩ := h
    refine ⟨a, c, e, fun h0 => ?_⟩
    obtain ⟨o, ea, hc⟩ := H h0
    refine ⟨o, ea, fun j hj => ?_⟩
    have h1 := hc j hj
    rw [F.cell _ _ (lt_of_cell (h1.trans (List.getElem?_eq_getElem hj))) (nR _ hb)]
    exact h1
  have L5' : OrdLeft w2 sh (qOff (!false)) kb5 vb5 tb5 ok ot ops 0 := P.L5.kept (fun o h1 h2 => DB.sho o h1 h2) (fun h o => F.cell _ o (P.ok5 h) (P.n5 _ (by simp))) (fun h o => F.cell _ o (P.ov5 h) (P.n5 _ (by simp))) (fun h o => F.cell _ o (P.ot5 h) (P.n5 _ (by simp)))
  have small := P.O1.small
  have small2 := P.O2.small
  have CK1 : Hid (∀ W, Below w2.heap.size w2 W → Calls Yba.prog 12 #[.pointer (some ⟨sh, 2, none⟩), .slice (some ⟨bkB, 0, none⟩) m bkc, .slice (some ⟨btB, 0, none⟩) m btc, .slice (some ⟨bvB, 0, none⟩) m bvc, .int .i64 cL] W fun e w' => e = .returned (.bool true) ∧ Below w2.heap.size w2 w') := fun W hW =>
    (after12_any sh 2 kb1 vb1 tb1 bkB btB bvB bkc btc bvc m cL bk bt bps W (by rw [P.O1.lk, lm]) (by rw [P.O1.lt, lm]) lm (by omega) (by rw [← lm]; exact P.S1.lt) cbk cbt cbv (by have := DB.l1.below (cell_below hW); rw [lm] at this; exact this) (row_below (rowK rbk (by simp)) (cell_below hW)) (row_below (rowK rbt (by simp)) (cell_below hW)) (row_below (rowK rbv (by simp)) (cell_below hW))).mono fun e w' ⟨h1, h2⟩ => ⟨h1, hW.trans (h2.mono hW.size)⟩
  have CK2 : Hid (∀ W, Below w2.heap.size w2 W → Calls Yba.prog 12 #[.pointer (some ⟨sh, 6, none⟩), .slice (some ⟨qkB, 0, none⟩) qn qkc, .slice (some ⟨qtB, 0, none⟩) qn qtc, .slice (some ⟨qvB, 0, none⟩) qn qvc, .int .i64 cQ] W fun e w' => e = .returned (.bool true) ∧ Below w2.heap.size w2 w') := fun W hW =>
    (after12_any sh 6 kb2 vb2 tb2 qkB qtB qvB qkc qtc qvc qn cQ qk qt qps W (by rw [P.O2.lk, lq]) (by rw [P.O2.lt, lq]) lq (by omega) (by rw [← lq]; exact P.S2.lt) cqk cqt cqv (by have := DB.l2.below (cell_below hW); rw [lq] at this; exact this) (row_below (rowK rqk (by simp)) (cell_below hW)) (row_below (rowK rqt (by simp)) (cell_below hW)) (row_below (rowK rqv (by simp)) (cell_below hW))).mono fun e w' ⟨h1, h2⟩ => ⟨h1, hW.trans (h2.mono hW.size)⟩
  have CK3 : Hid (∀ W, Below w2.heap.size w2 W → Calls Yba.prog 13 #[.pointer (some ⟨sh, 10, none⟩), oKV, oTV, oVV] W fun e w' => e = .returned (.bool true) ∧ Below w2.heap.size w2 w') := fun W hW =>
    (same13_any sh 10 kb5 vb5 tb5 oKV oVV oTV ok ot ops W lo1 lo2 lo3 (L5'.below (cell_below hW)) (vw_below (vwK rok (by simp)).vw (cell_below hW)) (vw_below (vwK rot (by simp)).vw (cell_below hW)) (vw_below (vwK rov (by simp)).vw (cell_below hW))).mono fun e w' ⟨h1, h2⟩ => ⟨h1, hW.trans (h2.mono hW.size)⟩
  have c13 := DB.ch13
  have c14 : w2.cell? ⟨ch, 14, none⟩ = some (.int .i64 slot) := (DB.cho 14 (by omega)).trans P.hch.slot
  have chs : ch < w2.heap.size := lt_of_cell c13
  have shs : sh < w2.heap.size := lt_of_cell DB.l1.c3
  have bel : ∀ {W : World}, Below w2.heap.size w2 W → ∀ {b o : Nat} {v : Value}, w2.cell? ⟨b, o, none⟩ = some v → W.cell? ⟨b, o, none⟩ = some v := fun hW _ _ _ h => (hW.cell (lt_of_cell h)).trans h
  have c5 : w2.cell? ⟨ch, 5, none⟩ = some (.int .i64 1) := (DB.cho 5 (by omega)).trans c5w
  have BEL : Hid (∀ (W : World), Below w2.heap.size w2 W → ∀ (b o : Nat) (v : Value), w2.cell? ⟨b, o, none⟩ = some v → W.cell? ⟨b, o, none⟩ = some v) := fun W hW b o v h => bel hW h
  clear c5w HD L5' bel hq2 vwK ht12
  go_wp2_with fail
  refine (CK1.out _ (Below.refl _ _)).mono ?_
  rintro e w3 ⟨rfl, hb3⟩
  have d5 := BEL.out w3 hb3 _ _ _ c5
  clear c13 c14
  go_wp2_with fail
  refine (CK2.out _ (by exact hb3)).mono ?_
  rintro e w4 ⟨rfl, hb4⟩
  go_wp2_with fail
  refine (CK3.out _ (by exact hb4)).mono ?_
  rintro e w5 ⟨rfl, hb5⟩
  have small3 := P.O3.small
  have small4 := P.O4.small
  have L3 := D.b.l3
  have CK4 : Hid (∀ W, Below w2.heap.size w2 W → Calls Yba.prog 16 #[.pointer (some ⟨z, 2, none⟩), .slice (some ⟨lkB, 0, none⟩) ns lkc, .slice (some ⟨ltB, 0, none⟩) ns ltc, .slice (some ⟨lvB, 0, none⟩) ns lvc, .int .i64 sa] W fun e w' => e = .returned (.bool true) ∧ Below w2.heap.size w2 w') := fun W hW =>
    (after16_any z 2 kb3 vb3 tb3 lkB ltB lvB lkc ltc lvc ns sa lk lt lps W (by rw [P.O3.lk, ls]) (by rw [P.O3.lt, ls]) ls (by omega) (by rw [← ls]; exact P.S3.lt) clk clt clv (by have := L3.below (cell_below hW); rw [ls] at this; exact this) (row_below (rowK rlk (by simp)) (cell_below hW)) (row_below (rowK rlt (by simp)) (cell_below hW)) (row_below (rowK rlv (by simp)) (cell_below hW))).mono fun e w' ⟨h1, h2⟩ => ⟨h1, hW.trans (h2.mono hW.size)⟩
  have t12v := BEL.out w5 hb5 _ _ _ D.b.t12
  have latv := BEL.out w5 hb5 _ _ _ (D.b.latest.trans P.sh1)
  have hm1' := hm1.out
  have L4 := D.l4
  have CK5 : Hid (∀ W, Below w2.heap.size w2 W → Calls Yba.prog 17 #[.pointer (some ⟨tB, 7, none⟩), .slice (some ⟨zkB, 0, none⟩) nz zkc, .slice (some ⟨ztB, 0, none⟩) nz ztc, .slice (some ⟨zvB, 0, none⟩) nz zvc, .int .i64 za] W fun e w' => e = .returned (.bool true) ∧ Below w2.heap.size w2 w') := fun W hW =>
    (after17_any tB 7 kb4 vb4 tb4 zkB ztB zvB zkc ztc zvc nz za zk zt zps W (by rw [P.O4.lk, lz]) (by rw [P.O4.lt, lz]) lz (by omega) (by rw [← lz]; exact P.S4.lt) czk czt czv (by have := L4.below (cell_below hW); rw [lz] at this; exact this) (row_below (rowK rzk (by simp)) (cell_below hW)) (row_below (rowK rzt (by simp)) (cell_below hW)) (row_below (rowK rzv (by simp)) (cell_below hW))).mono fun e w' ⟨h1, h2⟩ => ⟨h1, hW.trans (h2.mono hW.size)⟩
  obtain ⟨a11, k11, h11⟩ := D.t11
  have z1w := D.z1.trans P.z1
  have hns' := hns.out
  clear L3 L4
  clear CK1 CK2 CK3 rowK F D DB hb3 hb4 c5 d5 rbk rbt rbv rqk rqt rqv rlk rlt rlv rzk rzt rzv rok rot rov nR P hB cbk cbt cbv cqk cqt cqv clk clt clv czk czt czv
  subst hm1'
  subst hns'
  go_wp2_with fail
  refine (CK4.out _ (by exact hb5)).mono ?_
  rintro e w6 ⟨rfl, hb6⟩
  go_wp2_with fail
  refine (CK5.out _ (by exact hb6)).mono ?_
  rintro e w7 ⟨rfl, hb7⟩
  have z1v := BEL.out w7 hb7 _ _ _ z1w
  have t11v := BEL.out w7 hb7 _ _ _ h11
  go_wp2
  go_ret
  exact ⟨rfl, hB2.trans (hb7.mono hBs)⟩

set_option maxRecDepth 1000000 in
set_option maxHeartbeats 6400000 in
theorem t3B1_true (B tB z ch sh kb1 vb1 tb1 kb2 vb2 tb2 kb3 vb3 tb3 kb4 vb4 tb4 kb5 vb5 tb5 : Nat) (x r sz len slot hint : Int) (useHint : Bool) (bk bt qk qt ok ot lk lt zk zt : List Int) (bps qps lps zps : List Nat) (ops : List (Option Nat)) (cL cQ sa za pc : Nat) (pa : Option Addr)
    (m qn ns nz bkB btB bvB qkB qtB qvB lkB ltB lvB zkB ztB zvB okB otB ovB bkc btc bvc qkc qtc qvc lkc ltc lvc zkc ztc zvc : Nat) (oKV oTV oVV : Value) (w0 w : World) (hm1 : Hid (m = 1)) (hns : Hid (ns = 1))
    (P : Pre w B tB z ch sh kb1 vb1 tb1 kb2 vb2 tb2 kb3 vb3 tb3 kb4 vb4 tb4 kb5 vb5 tb5 true x r sz len slot bk bt qk qt ok ot lk lt zk zt bps qps lps zps ops cL cQ sa za pc pa)
    (lm : bps.length = m) (lq : qps.length = qn) (ls : lps.length = ns) (lz : zps.length = nz) (lo1 : ok.length ≤ 5000) (lo2 : ot.length ≤ 5000) (lo3 : ops.length ≤ 5000)
    (cbk : m ≤ bkc) (cbt : m ≤ btc) (cbv : m ≤ bvc) (cqk : qn ≤ qkc) (cqt : qn ≤ qtc) (cqv : qn ≤ qvc) (clk : ns ≤ lkc) (clt : ns ≤ ltc) (clv : ns ≤ lvc) (czk : nz ≤ zkc) (czt : nz ≤ ztc) (czv : nz ≤ zvc)
    (rbk : RowAt w bkB (ints bk)) (rbt : RowAt w btB (ints bt)) (rbv : RowAt w bvB (ptrs (bps.map some))) (rqk : RowAt w qkB (ints qk)) (rqt : RowAt w qtB (ints qt)) (rqv : RowAt w qvB (ptrs (qps.map some)))
    (rlk : RowAt w lkB (ints lk)) (rlt : RowAt w ltB (ints lt)) (rlv : RowAt w lvB (ptrs (lps.map some))) (rzk : RowAt w zkB (ints zk)) (rzt : RowAt w ztB (ints zt)) (rzv : RowAt w zvB (ptrs (zps.map some)))
    (rok : VwB w okB oKV (ints ok)) (rot : VwB w otB oTV (ints ot)) (rov : VwB w ovB oVV (ptrs ops))
    (nR : ∀ b, b ∈ [bkB, btB, bvB, qkB, qtB, qvB, lkB, ltB, lvB, zkB, ztB, zvB, okB, otB, ovB] → ¬ (b = vb1 ∨ b = vb2 ∨ b = ch ∨ b = sh ∨ b = tB ∨ b = z ∨ b = vb3 ∨ b = vb4))
    (hB : Below B w0 w)
    (u0 u1 u2 u3 u6 u7 u8 u9 u10 u11 u12 u13 u14 u15 u16 u17 u18 u19 u21 u23 u24 u29 u30 u37 u39 u46 u47 u48 u49 u54 u59 u60 u61 u62 u63 u64 u65 u66 u67 u68 u69 u70 u71 u72 u73 u74 u75 u76 u77 u78 u79 u80 u81 u82 u83 u84 u85 u86 u87 u88 u89 u90 u91 u92 u93 u94 u95 u96 u97 u98 u99 u100 u101 u102 u103 u104 u105 u106 u107 u108 u109 u110 u111 u112 u113 u114 u115 u116 u117 u118 u119 u120 u121 u122 u123 u124 u125 u126 u127 u128 u129 u130 u131 u132 u133 u134 u135 u136 u137 u138 u139 u140 u141 u142 u143 u144 u145 u146 u147 u148 u149 u150 u151 u152 u153 u154 u155 u156 u157 u158 u159 u160 u161 u162 u163 u164 u165 u166 u167 u168 u169 u170 u171 u172 u173 u174 u175 u176 u177 u178 u179 u180 u181 u182 u183 u184 u185 u186 u187 u188 u189 u190 u191 u192 u193 u194 u195 u196 u197 u198 u199 u200 u201 u202 u203 u204 u205 u206 u207 u208 u209 u210 u211 u212 u213 u214 u215 u216 u217 u218 u219 u220 u221 u222 u223 u224 u225 u226 u227 u228 u229 u230 u231 u232 u233 u234 u235 u236 u237 u238 u239 u240 u241 u242 u243 u244 u245 u246 u247 u248 u249 u250 u251 u252 u253 u254 u255 u256 u257 u258 u259 u260 u261 u262 u263 u264 u265 u266 u267 u268 u269 u270 u271 u272 u273 u274 u275 u276 u277 u278 u279 u280 u281 u282 u283 u284 u285 u286 u287 u288 u289 u290 u291 u292 u293 u294 u295 u296 u297 u298 u299 u300 u301 u302 u303 u304 u305 u306 u307 u308 u309 u310 u311 u312 u313 u314 u315 u316 u317 u318 u319 u320 u321 u322 u323 u324 u325 u326 u327 u328 u329 u330 u331 u332 u333 u334 u335 u336 u337 u338 u339 u340 u341 u342 u343 u344 u345 u346 u347 u348 u349 u350 u351 u352 u353 u354 u355 u356 u357 u358 u359 u360 u361 u362 u363 u364 u365 u366 u367 u368 u369 u370 u371 u372 u373 u374 u375 u376 u377 u378 u379 u380 u381 u382 u383 u384 u385 u386 u387 u388 u389 u390 u391 u392 u393 u394 u395 u396 u397 u398 u399 u400 u401 u402 u403 u404 u405 u406 u407 u408 u409 u410 u411 u412 u413 u414 u415 u416 u417 u418 u419 u420 u421 u422 u423 u424 u425 u426 u427 u428 u429 u430 u431 u432 u433 u434 u435 u436 u437 u438 u439 u440 u441 u442 u443 u444 u445 u446 u447 u448 u449 u450 u451 u452 u453 u454 u455 u456 u457 u458 u459 u460 u461 u462 u463 u464 u465 u466 u467 u468 u469 u470 u471 u472 u473 u474 u475 u476 u477 u478 u479 u480 u481 u482 u483 u484 u485 u486 u487 u488 u489 u490 u491 u492 u493 u494 u495 u496 u497 u498 u499 u500 u501 u502 u503 u504 u505 u506 u507 u508 u509 u510 u511 u512 u513 u514 u515 u516 u517 u518 u519 u520 u521 u522 u523 u524 u525 u526 u527 u528 u529 u530 u531 u532 u533 u534 u535 u536 u537 u538 u539 u540 u541 u542 u543 u544 u545 u546 u547 u548 u549 u550 u551 u552 u553 u554 u555 u556 u557 u558 u559 u560 u561 u562 u563 u564 u565 u566 u567 u568 u569 u570 u571 u572 u573 u574 u575 u576 u577 u578 u579 u580 u581 u582 u583 u584 u585 u586 : Value) :
    Code.wp Yba.prog (tailAt 85 (bodyOf Yba.f3)) (bodyPost Yba.prog Yba.f3 fun e w' => e = .returned (.bool true) ∧ Below B w0 w') ⟨#[u0, u1, u2, u3, .bool useHint, .int .i64 hint, u6, u7, u8, u9, u10, u11, u12, u13, u14, u15, u16, u17, u18, u19, .bool false, u21, .int .i64 m, u23, u24, .int .i64 za, .slice (some ⟨zkB, 0, none⟩) nz zkc, .slice (some ⟨ztB, 0, none⟩) nz ztc, .slice (some ⟨zvB, 0, none⟩) nz zvc, u29, u30, .pointer (some ⟨z, 0, none⟩), .int .i64 ns, .int .i64 sa, .slice (some ⟨lkB, 0, none⟩) ns lkc, .slice (some ⟨ltB, 0, none⟩) ns ltc, .slice (some ⟨lvB, 0, none⟩) ns lvc, u37, .pointer (some ⟨sh, 0, none⟩), u39, .pointer (some ⟨ch, 0, none⟩), oKV, .slice (some ⟨qkB, 0, none⟩) qn qkc, oVV, .slice (some ⟨qvB, 0, none⟩) qn qvc, .int .i64 cQ, u46, u47, u48, u49, .slice (some ⟨bkB, 0, none⟩) m bkc, .slice (some ⟨btB, 0, none⟩) m btc, .slice (some ⟨bvB, 0, none⟩) m bvc, .int .i64 cL, u54, oTV, .slice (some ⟨qtB, 0, none⟩) qn qtc, .pointer (some ⟨tB, 0, none⟩), .int .i64 slot, u59, u60, u61, u62, u63, u64, u65, u66, u67, u68, u69, u70, u71, u72, u73, u74, u75, u76, u77, u78, u79, u80, u81, u82, u83, u84, u85, u86, u87, u88, u89, u90, u91, u92, u93, u94, u95, u96, u97, u98, u99, u100, u101, u102, u103, u104, u105, u106, u107, u108, u109, u110, u111, u112, u113, u114, u115, u116, u117, u118, u119, u120, u121, u122, u123, u124, u125, u126, u127, u128, u129, u130, u131, u132, u133, u134, u135, u136, u137, u138, u139, u140, u141, u142, u143, u144, u145, u146, u147, u148, u149, u150, u151, u152, u153, u154, u155, u156, u157, u158, u159, u160, u161, u162, u163, u164, u165, u166, u167, u168, u169, u170, u171, u172, u173, u174, u175, u176, u177, u178, u179, u180, u181, u182, u183, u184, u185, u186, u187, u188, u189, u190, u191, u192, u193, u194, u195, u196, u197, u198, u199, u200, u201, u202, u203, u204, u205, u206, u207, u208, u209, u210, u211, u212, u213, u214, u215, u216, u217, u218, u219, u220, u221, u222, u223, u224, u225, u226, u227, u228, u229, u230, u231, u232, u233, u234, u235, u236, u237, u238, u239, u240, u241, u242, u243, u244, u245, u246, u247, u248, u249, u250, u251, u252, u253, u254, u255, u256, u257, u258, u259, u260, u261, u262, u263, u264, u265, u266, u267, u268, u269, u270, u271, u272, u273, u274, u275, u276, u277, u278, u279, u280, u281, u282, u283, u284, u285, u286, u287, u288, u289, u290, u291, u292, u293, u294, u295, u296, u297, u298, u299, u300, u301, u302, u303, u304, u305, u306, u307, u308, u309, u310, u311, u312, u313, u314, u315, u316, u317, u318, u319, u320, u321, u322, u323, u324, u325, u326, u327, u328, u329, u330, u331, u332, u333, u334, u335, u336, u337, u338, u339, u340, u341, u342, u343, u344, u345, u346, u347, u348, u349, u350, u351, u352, u353, u354, u355, u356, u357, u358, u359, u360, u361, u362, u363, u364, u365, u366, u367, u368, u369, u370, u371, u372, u373, u374, u375, u376, u377, u378, u379, u380, u381, u382, u383, u384, u385, u386, u387, u388, u389, u390, u391, u392, u393, u394, u395, u396, u397, u398, u399, u400, u401, u402, u403, u404, u405, u406, u407, u408, u409, u410, u411, u412, u413, u414, u415, u416, u417, u418, u419, u420, u421, u422, u423, u424, u425, u426, u427, u428, u429, u430, u431, u432, u433, u434, u435, u436, u437, u438, u439, u440, u441, u442, u443, u444, u445, u446, u447, u448, u449, u450, u451, u452, u453, u454, u455, u456, u457, u458, u459, u460, u461, u462, u463, u464, u465, u466, u467, u468, u469, u470, u471, u472, u473, u474, u475, u476, u477, u478, u479, u480, u481, u482, u483, u484, u485, u486, u487, u488, u489, u490, u491, u492, u493, u494, u495, u496, u497, u498, u499, u500, u501, u502, u503, u504, u505, u506, u507, u508, u509, u510, u511, u512, u513, u514, u515, u516, u517, u518, u519, u520, u521, u522, u523, u524, u525, u526, u527, u528, u529, u530, u531, u532, u533, u534, u535, u536, u537, u538, u539, u540, u541, u542, u543, u544, u545, u546, u547, u548, u549, u550, u551, u552, u553, u554, u555, u556, u557, u558, u559, u560, u561, u562, u563, u564, u565, u566, u567, u568, u569, u570, u571, u572, u573, u574, u575, u576, u577, u578, u579, u580, u581, u582, u583, u584, u585, u586], []⟩ w := by
  obtain ⟨a12, k12, ht12⟩ := P.t12
  have HD : Hid (Calls Yba.prog 11 #[.pointer (some ⟨tB, 0, none⟩), .pointer (some ⟨ch, 0, none⟩)] w fun e w' => e = .returned (.tuple #[]) ∧ DropB1 w w' tB z ch sh kb1 vb1 tb1 kb2 vb2 tb2 kb3 vb3 tb3 kb4 vb4 tb4 cL cQ sa za true bk bt qk qt lk lt zk zt bps qps lps zps) := dropB1_any tB z ch sh kb1 vb1 tb1 kb2 vb2 tb2 kb3 vb3 tb3 kb4 vb4 tb4 cL cQ sa za pc pa true x r sz slot len bk bt qk qt lk lt zk zt bps qps lps zps _ _ w (by rw [lm]; exact hm1.out) (by rw [ls]; exact hns.out) P.sh0 P.z1 ht12 P.t11 P.hpc P.nd P.hx1 P.hx2 P.hs1 P.hs2 P.hch P.fch P.O1 P.S1 P.O2 P.S2 P.O3 P.S3 P.O4 P.S4
  have c5w : w.cell? ⟨ch, 5, none⟩ = some (.int .i64 2) := P.hch.last.1
  conv => arg 2; whnf
  go_wp2_with fail
  refine HD.out.mono ?_
  rintro e w2 ⟨rfl, D⟩
  have F : Fr w w2 (fun b => b = vb1 ∨ b = vb2 ∨ b = ch ∨ b = sh ∨ b = tB ∨ b = z ∨ b = vb3 ∨ b = vb4) := D.b.fr
  have DB := D.b.both
  have hq2 : (true : Bool) = true := rfl
  have hBs : B ≤ w2.heap.size := Nat.le_trans P.Bs F.size
  have hB2 : Below B w0 w2 := hB.trans (F.below P.Bs P.BB)
  have rowK : ∀ {b : Nat} {vs : List Value}, RowAt w b vs → b ∈ [bkB, btB, bvB, qkB, qtB, qvB, lkB, ltB, lvB, zkB, ztB, zvB, okB, otB, ovB] → RowAt w2 b vs := fun h hb j hj => by
    have h1 := h j hj
    rw [F.cell _ j (lt_of_cell (h1.trans (List.getElem?_eq_getElem hj))) (nR _ hb)]
    exact h1
  have vwK : ∀ {b : Nat} {v : Value} {vs : List Value}, VwB w b v vs → b ∈ [bkB, btB, bvB, qkB, qtB, qvB, lkB, ltB, lvB, zkB, ztB, zvB, okB, otB, ovB] → VwB w2 b v vs := fun h hb => by
    obtain ⟨a, c, e, H⟩ := h
    refine ⟨a, c, e, fun h0 => ?_⟩
    obtain ⟨o, ea, hc⟩ := H h0
    refine ⟨o, ea, fun j hj => ?_⟩
    have h1 := hc j hj
    rw [F.cell _ _ (lt_of_cell (h1.trans (List.getElem?_eq_getElem hj))) (nR _ hb)]
    exact h1
  have L5' : OrdLeft w2 sh (qOff (!true)) kb5 vb5 tb5 ok ot ops 0 := P.L5.kept (fun o h1 h2 => DB.sho o h1 h2) (fun h o => F.cell _ o (P.ok5 h) (P.n5 _ (by simp))) (fun h o => F.cell _ o (P.ov5 h) (P.n5 _ (by simp))) (fun h o => F.cell _ o (P.ot5 h) (P.n5 _ (by simp)))
  have small := P.O1.small
  have small2 := P.O2.small
  have CK1 : Hid (∀ W, Below w2.heap.size w2 W → Calls Yba.prog 12 #[.pointer (some ⟨sh, 2, none⟩), .slice (some ⟨bkB, 0, none⟩) m bkc, .slice (some ⟨btB, 0, none⟩) m btc, .slice (some ⟨bvB, 0, none⟩) m bvc, .int .i64 cL] W fun e w' => e = .returned (.bool true) ∧ Below w2.heap.size w2 w') := fun W hW =>
    (after12_any sh 2 kb1 vb1 tb1 bkB btB bvB bkc btc bvc m cL bk bt bps W (by rw [P.O1.lk, lm]) (by rw [P.O1.lt, lm]) lm (by omega) (by rw [← lm]; exact P.S1.lt) cbk cbt cbv (by have := DB.l1.below (cell_below hW); rw [lm] at this; exact this) (row_below (rowK rbk (by simp)) (cell_below hW)) (row_below (rowK rbt (by simp)) (cell_below hW)) (row_below (rowK rbv (by simp)) (cell_below hW))).mono fun e w' ⟨h1, h2⟩ => ⟨h1, hW.trans (h2.mono hW.size)⟩
  have CK2 : Hid (∀ W, Below w2.heap.size w2 W → Calls Yba.prog 12 #[.pointer (some ⟨sh, 10, none⟩), .slice (some ⟨qkB, 0, none⟩) qn qkc, .slice (some ⟨qtB, 0, none⟩) qn qtc, .slice (some ⟨qvB, 0, none⟩) qn qvc, .int .i64 cQ] W fun e w' => e = .returned (.bool true) ∧ Below w2.heap.size w2 w') := fun W hW =>
    (after12_any sh 10 kb2 vb2 tb2 qkB qtB qvB qkc qtc qvc qn cQ qk qt qps W (by rw [P.O2.lk, lq]) (by rw [P.O2.lt, lq]) lq (by omega) (by rw [← lq]; exact P.S2.lt) cqk cqt cqv (by have := DB.l2.below (cell_below hW); rw [lq] at this; exact this) (row_below (rowK rqk (by simp)) (cell_below hW)) (row_below (rowK rqt (by simp)) (cell_below hW)) (row_below (rowK rqv (by simp)) (cell_below hW))).mono fun e w' ⟨h1, h2⟩ => ⟨h1, hW.trans (h2.mono hW.size)⟩
  have CK3 : Hid (∀ W, Below w2.heap.size w2 W → Calls Yba.prog 13 #[.pointer (some ⟨sh, 6, none⟩), oKV, oTV, oVV] W fun e w' => e = .returned (.bool true) ∧ Below w2.heap.size w2 w') := fun W hW =>
    (same13_any sh 6 kb5 vb5 tb5 oKV oVV oTV ok ot ops W lo1 lo2 lo3 (L5'.below (cell_below hW)) (vw_below (vwK rok (by simp)).vw (cell_below hW)) (vw_below (vwK rot (by simp)).vw (cell_below hW)) (vw_below (vwK rov (by simp)).vw (cell_below hW))).mono fun e w' ⟨h1, h2⟩ => ⟨h1, hW.trans (h2.mono hW.size)⟩
  have c13 := DB.ch13
  have c14 : w2.cell? ⟨ch, 14, none⟩ = some (.int .i64 slot) := (DB.cho 14 (by omega)).trans P.hch.slot
  have chs : ch < w2.heap.size := lt_of_cell c13
  have shs : sh < w2.heap.size := lt_of_cell DB.l1.c3
  have bel : ∀ {W : World}, Below w2.heap.size w2 W → ∀ {b o : Nat} {v : Value}, w2.cell? ⟨b, o, none⟩ = some v → W.cell? ⟨b, o, none⟩ = some v := fun hW _ _ _ h => (hW.cell (lt_of_cell h)).trans h
  have c5 : w2.cell? ⟨ch, 5, none⟩ = some (.int .i64 2) := (DB.cho 5 (by omega)).trans c5w
  have BEL : Hid (∀ (W : World), Below w2.heap.size w2 W → ∀ (b o : Nat) (v : Value), w2.cell? ⟨b, o, none⟩ = some v → W.cell? ⟨b, o, none⟩ = some v) := fun W hW b o v h => bel hW h
  clear c5w HD L5' bel hq2 vwK ht12
  go_wp2_with fail
  refine (CK1.out _ (Below.refl _ _)).mono ?_
  rintro e w3 ⟨rfl, hb3⟩
  have d5 := BEL.out w3 hb3 _ _ _ c5
  clear c13 c14
  go_wp2_with fail
  refine (CK2.out _ (by exact hb3)).mono ?_
  rintro e w4 ⟨rfl, hb4⟩
  go_wp2_with fail
  refine (CK3.out _ (by exact hb4)).mono ?_
  rintro e w5 ⟨rfl, hb5⟩
  have small3 := P.O3.small
  have small4 := P.O4.small
  have L3 := D.b.l3
  have CK4 : Hid (∀ W, Below w2.heap.size w2 W → Calls Yba.prog 16 #[.pointer (some ⟨z, 2, none⟩), .slice (some ⟨lkB, 0, none⟩) ns lkc, .slice (some ⟨ltB, 0, none⟩) ns ltc, .slice (some ⟨lvB, 0, none⟩) ns lvc, .int .i64 sa] W fun e w' => e = .returned (.bool true) ∧ Below w2.heap.size w2 w') := fun W hW =>
    (after16_any z 2 kb3 vb3 tb3 lkB ltB lvB lkc ltc lvc ns sa lk lt lps W (by rw [P.O3.lk, ls]) (by rw [P.O3.lt, ls]) ls (by omega) (by rw [← ls]; exact P.S3.lt) clk clt clv (by have := L3.below (cell_below hW); rw [ls] at this; exact this) (row_below (rowK rlk (by simp)) (cell_below hW)) (row_below (rowK rlt (by simp)) (cell_below hW)) (row_below (rowK rlv (by simp)) (cell_below hW))).mono fun e w' ⟨h1, h2⟩ => ⟨h1, hW.trans (h2.mono hW.size)⟩
  have t12v := BEL.out w5 hb5 _ _ _ D.b.t12
  have latv := BEL.out w5 hb5 _ _ _ (D.b.latest.trans P.sh1)
  have hm1' := hm1.out
  have L4 := D.l4
  have CK5 : Hid (∀ W, Below w2.heap.size w2 W → Calls Yba.prog 17 #[.pointer (some ⟨tB, 7, none⟩), .slice (some ⟨zkB, 0, none⟩) nz zkc, .slice (some ⟨ztB, 0, none⟩) nz ztc, .slice (some ⟨zvB, 0, none⟩) nz zvc, .int .i64 za] W fun e w' => e = .returned (.bool true) ∧ Below w2.heap.size w2 w') := fun W hW =>
    (after17_any tB 7 kb4 vb4 tb4 zkB ztB zvB zkc ztc zvc nz za zk zt zps W (by rw [P.O4.lk, lz]) (by rw [P.O4.lt, lz]) lz (by omega) (by rw [← lz]; exact P.S4.lt) czk czt czv (by have := L4.below (cell_below hW); rw [lz] at this; exact this) (row_below (rowK rzk (by simp)) (cell_below hW)) (row_below (rowK rzt (by simp)) (cell_below hW)) (row_below (rowK rzv (by simp)) (cell_below hW))).mono fun e w' ⟨h1, h2⟩ => ⟨h1, hW.trans (h2.mono hW.size)⟩
  obtain ⟨a11, k11, h11⟩ := D.t11
  have z1w := D.z1.trans P.z1
  have hns' := hns.out
  clear L3 L4
  clear CK1 CK2 CK3 rowK F D DB hb3 hb4 c5 d5 rbk rbt rbv rqk rqt rqv rlk rlt rlv rzk rzt rzv rok rot rov nR P hB cbk cbt cbv cqk cqt cqv clk clt clv czk czt czv
  subst hm1'
  subst hns'
  go_wp2_with fail
  refine (CK4.out _ (by exact hb5)).mono ?_
  rintro e w6 ⟨rfl, hb6⟩
  go_wp2_with fail
  refine (CK5.out _ (by exact hb6)).mono ?_
  rintro e w7 ⟨rfl, hb7⟩
  have z1v := BEL.out w7 hb7 _ _ _ z1w
  have t11v := BEL.out w7 hb7 _ _ _ h11
  go_wp2
  go_ret
  exact ⟨rfl, hB2.trans (hb7.mono hBs)⟩

end Go.Proofs.Ybulkexnkw
