/-
  The law from the sort on.
-/
import Derived.Test.YbulkexnkwFill
import Derived.Test.YbulkexnkwT2f
import Derived.Test.YbulkexnkwT2t
namespace Go.Proofs.Ybulkexnkw
open Go.RowKit Go.Sort
set_option linter.unusedVariables false

set_option maxRecDepth 1000000 in
set_option maxHeartbeats 6400000 in
theorem t1_false (B z ch sh eB ec : Nat) (x r sz len hint : Int) (useHint : Bool) (qkB qvB lkB ltB lvB zkB ztB zvB okB ovB qkc qvc lkc ltc lvc zkc ztc zvc m qn ns nz : Nat) (oa : Option Addr) (on oc : Nat) (oVV : Value)
    (qk ok lk lt zk zt : List Int) (es : List Ent) (qps lps zps : List Nat) (ops : List (Option Nat)) (cQ sa za : Nat) (w0 w : World)
    (H : SitE w B z ch sh eB false x r sz len qkB qvB lkB ltB lvB zkB ztB zvB okB ovB qkc qvc lkc ltc lvc zkc ztc zvc m qn ns nz (.slice oa on oc) oVV qk ok lk lt zk zt es qps lps zps ops cQ sa za) (hec : m ≤ ec) (hB : Below B w0 w) (hh1 : -9223372036854775808 ≤ hint) (hh2 : hint ≤ 9223372036854775807)
    (u0 u1 u2 u3 u6 u7 u8 u9 u10 u11 u12 u13 u14 u15 u16 u17 u18 u19 u21 u23 u24 u29 u30 u37 u46 u47 u48 u49 u50 u51 u52 u53 u54 u55 u56 u57 u58 u59 u60 u61 u62 u63 u64 u65 u66 u67 u68 u69 u70 u71 u72 u73 u74 u75 u76 u77 u78 u79 u80 u81 u82 u83 u84 u85 u86 u87 u88 u89 u90 u91 u92 u93 u94 u95 u96 u97 u98 u99 u100 u101 u102 u103 u104 u105 u106 u107 u108 u109 u110 u111 u112 u113 u114 u115 u116 u117 u118 u119 u120 u121 u122 u123 u124 u125 u126 u127 u128 u129 u130 u131 u132 u133 u134 u135 u136 u137 u138 u139 u140 u141 u142 u143 u144 u145 u146 u147 u148 u149 u150 u151 u152 u153 u154 u155 u156 u157 u158 u159 u160 u161 u162 u163 u164 u165 u166 u167 u168 u169 u170 u171 u172 u173 u174 u175 u176 u177 u178 u179 u180 u181 u182 u183 u184 u185 u186 u187 u188 u189 u190 u191 u192 u193 u194 u195 u196 u197 u198 u199 u200 u201 u202 u203 u204 u205 u206 u207 u208 u209 u210 u211 u212 u213 u214 u215 u216 u217 u218 u219 u220 u221 u222 u223 u224 u225 u226 u227 u228 u229 u230 u231 u232 u233 u234 u235 u236 u237 u238 u239 u240 u241 u242 u243 u244 u245 u246 u247 u248 u249 u250 u251 u252 u253 u254 u255 u256 u257 u258 u259 u260 u261 u262 u263 u264 u265 u266 u267 u268 u269 u270 u271 u272 u273 u274 u275 u276 u277 u278 u279 u280 u281 u282 u283 u284 u285 u286 u287 u288 u289 u290 u291 u292 u293 u294 u295 u296 u297 u298 u299 u300 u301 u302 u303 u304 u305 u306 u307 u308 u309 u310 u311 u312 u313 u314 u315 u316 u317 u318 u319 u320 u321 u322 u323 u324 u325 u326 u327 u328 u329 u330 u331 u332 u333 u334 u335 u336 u337 u338 u339 u340 u341 u342 u343 u344 u345 u346 u347 u348 u349 u350 u351 u352 u353 u354 u355 u356 u357 u358 u359 u360 u361 u362 u363 u364 u365 u366 u367 u368 u369 u370 u371 u372 u373 u374 u375 u376 u377 u378 u379 u380 u381 u382 u383 u384 u385 u386 u387 u388 u389 u390 u391 u392 u393 u394 u395 u396 u397 u398 u399 u400 u401 u402 u403 u404 u405 u406 u407 u408 u409 u410 u411 u412 u413 u414 u415 u416 u417 u418 u419 u420 u421 u422 u423 u424 u425 u426 u427 u428 u429 u430 u431 u432 u433 u434 u435 u436 u437 u438 u439 u440 u441 u442 u443 u444 u445 u446 u447 u448 u449 u450 u451 u452 u453 u454 u455 u456 u457 u458 u459 u460 u461 u462 u463 u464 u465 u466 u467 u468 u469 u470 u471 u472 u473 u474 u475 u476 u477 u478 u479 u480 u481 u482 u483 u484 u485 u486 u487 u488 u489 u490 u491 u492 u493 u494 u495 u496 u497 u498 u499 u500 u501 u502 u503 u504 u505 u506 u507 u508 u509 u510 u511 u512 u513 u514 u515 u516 u517 u518 u519 u520 u521 u522 u523 u524 u525 u526 u527 u528 u529 u530 u531 u532 u533 u534 u535 u536 u537 u538 u539 u540 u541 u542 u543 u544 u545 u546 u547 u548 u549 u550 u551 u552 u553 u554 u555 u556 u557 u558 u559 u560 u561 u562 u563 u564 u565 u566 u567 u568 u569 u570 u571 u572 u573 u574 u575 u576 u577 u578 u579 u580 u581 u582 u583 u584 u585 u586 : Value) :
    Code.wp Yba.prog (tailAt 63 (bodyOf Yba.f3)) (bodyPost Yba.prog Yba.f3 fun e w' => e = .returned (.bool true) ∧ Below B w0 w') ⟨#[u0, u1, u2, u3, .bool useHint, .int .i64 hint, u6, u7, u8, u9, u10, u11, u12, u13, u14, u15, u16, u17, u18, u19, .bool false, u21, .int .i64 m, u23, u24, .int .i64 za, .slice (some ⟨zkB, 0, none⟩) nz zkc, .slice (some ⟨ztB, 0, none⟩) nz ztc, .slice (some ⟨zvB, 0, none⟩) nz zvc, u29, u30, .pointer (some ⟨z, 0, none⟩), .int .i64 ns, .int .i64 sa, .slice (some ⟨lkB, 0, none⟩) ns lkc, .slice (some ⟨ltB, 0, none⟩) ns ltc, .slice (some ⟨lvB, 0, none⟩) ns lvc, u37, .pointer (some ⟨sh, 0, none⟩), .slice (some ⟨eB, 0, none⟩) m ec, .pointer (some ⟨ch, 0, none⟩), .slice (some ⟨qkB, 0, none⟩) qn qkc, .slice oa on oc, .slice (some ⟨qvB, 0, none⟩) qn qvc, oVV, .int .i64 cQ, u46, u47, u48, u49, u50, u51, u52, u53, u54, u55, u56, u57, u58, u59, u60, u61, u62, u63, u64, u65, u66, u67, u68, u69, u70, u71, u72, u73, u74, u75, u76, u77, u78, u79, u80, u81, u82, u83, u84, u85, u86, u87, u88, u89, u90, u91, u92, u93, u94, u95, u96, u97, u98, u99, u100, u101, u102, u103, u104, u105, u106, u107, u108, u109, u110, u111, u112, u113, u114, u115, u116, u117, u118, u119, u120, u121, u122, u123, u124, u125, u126, u127, u128, u129, u130, u131, u132, u133, u134, u135, u136, u137, u138, u139, u140, u141, u142, u143, u144, u145, u146, u147, u148, u149, u150, u151, u152, u153, u154, u155, u156, u157, u158, u159, u160, u161, u162, u163, u164, u165, u166, u167, u168, u169, u170, u171, u172, u173, u174, u175, u176, u177, u178, u179, u180, u181, u182, u183, u184, u185, u186, u187, u188, u189, u190, u191, u192, u193, u194, u195, u196, u197, u198, u199, u200, u201, u202, u203, u204, u205, u206, u207, u208, u209, u210, u211, u212, u213, u214, u215, u216, u217, u218, u219, u220, u221, u222, u223, u224, u225, u226, u227, u228, u229, u230, u231, u232, u233, u234, u235, u236, u237, u238, u239, u240, u241, u242, u243, u244, u245, u246, u247, u248, u249, u250, u251, u252, u253, u254, u255, u256, u257, u258, u259, u260, u261, u262, u263, u264, u265, u266, u267, u268, u269, u270, u271, u272, u273, u274, u275, u276, u277, u278, u279, u280, u281, u282, u283, u284, u285, u286, u287, u288, u289, u290, u291, u292, u293, u294, u295, u296, u297, u298, u299, u300, u301, u302, u303, u304, u305, u306, u307, u308, u309, u310, u311, u312, u313, u314, u315, u316, u317, u318, u319, u320, u321, u322, u323, u324, u325, u326, u327, u328, u329, u330, u331, u332, u333, u334, u335, u336, u337, u338, u339, u340, u341, u342, u343, u344, u345, u346, u347, u348, u349, u350, u351, u352, u353, u354, u355, u356, u357, u358, u359, u360, u361, u362, u363, u364, u365, u366, u367, u368, u369, u370, u371, u372, u373, u374, u375, u376, u377, u378, u379, u380, u381, u382, u383, u384, u385, u386, u387, u388, u389, u390, u391, u392, u393, u394, u395, u396, u397, u398, u399, u400, u401, u402, u403, u404, u405, u406, u407, u408, u409, u410, u411, u412, u413, u414, u415, u416, u417, u418, u419, u420, u421, u422, u423, u424, u425, u426, u427, u428, u429, u430, u431, u432, u433, u434, u435, u436, u437, u438, u439, u440, u441, u442, u443, u444, u445, u446, u447, u448, u449, u450, u451, u452, u453, u454, u455, u456, u457, u458, u459, u460, u461, u462, u463, u464, u465, u466, u467, u468, u469, u470, u471, u472, u473, u474, u475, u476, u477, u478, u479, u480, u481, u482, u483, u484, u485, u486, u487, u488, u489, u490, u491, u492, u493, u494, u495, u496, u497, u498, u499, u500, u501, u502, u503, u504, u505, u506, u507, u508, u509, u510, u511, u512, u513, u514, u515, u516, u517, u518, u519, u520, u521, u522, u523, u524, u525, u526, u527, u528, u529, u530, u531, u532, u533, u534, u535, u536, u537, u538, u539, u540, u541, u542, u543, u544, u545, u546, u547, u548, u549, u550, u551, u552, u553, u554, u555, u556, u557, u558, u559, u560, u561, u562, u563, u564, u565, u566, u567, u568, u569, u570, u571, u572, u573, u574, u575, u576, u577, u578, u579, u580, u581, u582, u583, u584, u585, u586], []⟩ w := by
  obtain ⟨lm, hm0, hm5⟩ := H.lm
  have hsz : es.toArray.size = m := by simpa using lm
  have S := sort_any eB 0 ec es.toArray w (holds_of_ents H.ents H.fe) H.el (by omega)
  rw [hsz] at S
  have HS := hidden S
  clear S
  have mk1 := fun w => make22 w m hm5
  have mk2 := fun w => make34 w m hm5
  conv => arg 2; whnf
  go_wp2_with fail
  refine HS.out.mono ?_
  rintro e w1 ⟨rfl, d, n, os, hperm, hsort, hw1⟩
  obtain ⟨es', ees⟩ : ∃ es', es' = d.toList := ⟨_, rfl⟩
  have hds : d.size = m := by rw [hperm.1]; exact hsz
  have hl' : es'.length = m := by rw [ees]; simpa using hds
  have hp : es'.Perm es := by
    have h := hperm.2.2
    rw [show d.extract 0 m = d by rw [← hds]; simp, show es.toArray.extract 0 m = es.toArray by rw [← hsz]; simp] at h
    rw [ees]
    simpa using h
  have hs : ∀ i j, i < j → j < es'.length → ltOf cmpE (es'.getD j (0, 0, 0)) (es'.getD i (0, 0, 0)) = false := fun i j hij hj => by
    have hj' : j < d.size := by omega
    have hi' : i < d.size := by omega
    have h := hsort i j (Nat.zero_le _) hij (by omega)
    rw [ees]
    simpa [List.getD, hj', hi'] using h
  obtain ⟨cL, hS⟩ := seat_sorted w es es' hp hs H.ht H.hb H.ho x r ch H.hm
  have F1 : FrO w w1 (fun b _ => b = eB) := by rw [hw1]; exact frame_sort w eB n d os
  have E1 : EntsAt w1 eB es' := by
    rw [hw1, ees]
    exact ents_of_holds (holdsK_sortWorldK encE 3 w eB 0 n es.toArray d os H.el (holds_of_ents H.ents H.fe) (by omega))
  clear hw1 hperm hsort HS ees
  obtain ⟨w2, hw2⟩ : ∃ w2, w2 = ((w1.alloc (newRow' (.int .i64 0) m 2)).alloc (newRow' (.int .i64 0) m 2)).alloc (newRow' (.pointer none) m 40) := ⟨_, rfl⟩
  have hcl : cL < m := by have := hS.lt; simp at this; omega
  have zw := F1.size
  have hA1 : Below w1.heap.size w1 w2 := by
    rw [hw2]
    exact (((Below.refl _ w1).alloc (Nat.le_refl _) _).alloc (by rw [size_alloc']; omega) _).alloc (by rw [size_alloc', size_alloc']; omega) _
  have hN2 : w2.heap.size = w1.heap.size + 3 := by rw [hw2, size_alloc', size_alloc', size_alloc']
  have ek : Own w2 w1.heap.size (.slice (some ⟨w1.heap.size, 0, none⟩) m m) (List.replicate m (.int .i64 0)) := by
    rw [hw2]
    exact ((make_own w1 _ m 2 rfl).kept (FrO.of_below (below_alloc _ _) (fun _ _ => False)) (fun _ h => h)).kept (FrO.of_below (below_alloc _ _) (fun _ _ => False)) (fun _ h => h)
  have et : Own w2 (w1.heap.size + 1) (.slice (some ⟨w1.heap.size + 1, 0, none⟩) m m) (List.replicate m (.int .i64 0)) := by
    rw [hw2]
    have h := make_own (w1.alloc (newRow' (.int .i64 0) m 2)) (.int .i64 0) m 2 rfl
    rw [size_alloc' w1] at h
    exact h.kept (FrO.of_below (below_alloc _ _) (fun _ _ => False)) (fun _ h => h)
  have ev : Own w2 (w1.heap.size + 1 + 1) (.slice (some ⟨w1.heap.size + 1 + 1, 0, none⟩) m m) (List.replicate m (.pointer none)) := by
    rw [hw2]
    have h := make_own ((w1.alloc (newRow' (.int .i64 0) m 2)).alloc (newRow' (.int .i64 0) m 2)) (.pointer none) m 40 rfl
    rw [size_alloc', size_alloc' w1] at h
    exact h
  have E2 : EntsAt w2 eB es' := fun j hj => by
    obtain ⟨a, b, c⟩ := E1 j hj
    exact ⟨(hA1.cell (lt_of_cell a)).trans a, (hA1.cell (lt_of_cell b)).trans b, (hA1.cell (lt_of_cell c)).trans c⟩
  have eL : eB < w1.heap.size := Nat.lt_of_lt_of_le H.el F1.size
  have R0 : Fill w2 w2 w1.heap.size (w1.heap.size + 1) (w1.heap.size + 1 + 1) es' 0 := ⟨FrO.refl _ _, fun j hj => by omega, fun j hj => by omega, fun j hj => by omega,
    fun j hj => ⟨_, (ek.row j (by simp; omega)).trans (List.getElem?_eq_getElem (by simp; omega))⟩, fun j hj => ⟨_, (et.row j (by simp; omega)).trans (List.getElem?_eq_getElem (by simp; omega))⟩, fun j hj => ⟨_, (ev.row j (by simp; omega)).trans (List.getElem?_eq_getElem (by simp; omega))⟩⟩
  have HE := hidden E2
  have HW := hidden hw2
  clear E2 E1
  go_upto_region 68 with fail
  rename_i KO hKO KI hKI
  have hK' := hidden hKO
  clear hKO
  go_wp2_with fail
  rw [← HW.out]
  clear hw2
  go_loopw [53, 54] (fun c i wr => ∃ k : Nat, k ≤ m ∧ i = .int .i64 k ∧ c = .int .i64 (if cL < k then (cL : Int) else 0) ∧ Fill w2 wr w1.heap.size (w1.heap.size + 1) (w1.heap.size + 1 + 1) es' k) (fun _ i _ => m - (intOf i).toNat)
  case atStart => exact ⟨0, Nat.zero_le _, rfl, rfl, R0⟩
  case round =>
    obtain ⟨k, hk, rfl, rfl, R⟩ := hrel
    by_cases hlt : k < m
    · obtain ⟨e0, e1, e2⟩ := HE.out k (by omega)
      obtain ⟨ka, kb, kp, ekv⟩ : ∃ ka kb kp, es'.getD k (0, 0, 0) = (ka, kb, kp) := ⟨_, _, _, rfl⟩
      rw [ekv] at e0 e1 e2
      dsimp only at e0 e1 e2
      have HKV := hidden ekv
      clear ekv
      have g0 := R.fr.some e0 (by omega)
      have g1 := R.fr.some e1 (by omega)
      have g2 := R.fr.some e2 (by omega)
      obtain ⟨uk, xk⟩ := R.xk k (by omega)
      obtain ⟨ut, xt⟩ := R.xt k (by omega)
      obtain ⟨uv, xv⟩ := R.xv k (by omega)
      have fk : wr.frozen? ⟨w1.heap.size, k, none⟩ = false := (R.fr.frozen _ _ (by omega)).trans (ek.fz (by simp; omega) k)
      have ft : wr.frozen? ⟨w1.heap.size + 1, k, none⟩ = false := (R.fr.frozen _ _ (by omega)).trans (et.fz (by simp; omega) k)
      have fv : wr.frozen? ⟨w1.heap.size + 1 + 1, k, none⟩ = false := (R.fr.frozen _ _ (by omega)).trans (ev.fz (by simp; omega) k)
      have HR := hidden R
      have Hlen := hidden hl'
      clear e0 e1 e2 R hl' R0 ek et ev
      go_upto_region 71 with fail
      go_region
      clear g0 g1 xk xt xv fk ft fv
      go_upto_region 72 with fail
      obtain ⟨wx, hwx⟩ : ∃ wx, wx = (((wr.setCell ⟨w1.heap.size, k, none⟩ (.int .i64 ka)).setCell ⟨w1.heap.size + 1, k, none⟩ (.int .i64 kb)).setCell ⟨w1.heap.size + 1 + 1, k, none⟩ (.pointer (some ⟨kp, 0, none⟩))).drew := ⟨_, rfl⟩
      have R' : Fill w2 wx w1.heap.size (w1.heap.size + 1) (w1.heap.size + 1 + 1) es' (k + 1) := by
        have h := HR.out.step (by rw [Hlen.out]; exact hlt) (by omega) (by omega) (by omega) 1
        rw [HKV.out] at h
        rw [hwx]
        exact h
      rw [← hwx]
      have g2' : wx.cell? ⟨eB, k * 3 + 2, none⟩ = some (.pointer (some ⟨kp, 0, none⟩)) := by
        have h := (HE.out k (by rw [Hlen.out]; exact hlt)).2.2
        rw [HKV.out] at h
        exact R'.fr.some h (by omega)
      clear g2 hwx
      have hor : Obj wx kp := R'.fr.obj _ ((FrO.of_below hA1 (fun _ _ => False)).obj _ (F1.obj _ (H.ho (ka, kb, kp) (hp.mem_iff.1 (by
        have h := HKV.out
        rw [getD_nat (by rw [Hlen.out]; exact hlt)] at h
        rw [← h]
        exact List.getElem_mem _)))))
      have hop : Obj wx ch := R'.fr.obj _ ((FrO.of_below hA1 (fun _ _ => False)).obj _ (F1.obj _ (H.ho (x, r, ch) H.hm)))
      have kpe : (es'.map (fun e => e.2.2)).getD k 0 = kp := by
        have h := HKV.out
        have hk' : k < es'.length := by rw [Hlen.out]; exact hlt
        rw [getD_nat hk'] at h
        simp [List.getD, hk', h]
      have RR := hidden R'
      clear R'
      obtain ⟨j0, hj0, hs0⟩ := Yba.info53
      by_cases hc : k = cL
      · subst hc
        have hkc : kp = ch := by rw [← kpe]; exact hS.at_
        subst hkc
        have he := fun w => run_eql_ptr_same (P := Yba.prog) w (tp := 40) ⟨kp, 0, none⟩ Yba.underlying40 hj0
        clear hj0 hs0 kpe hor hop
        go_wp2_with fail
        go_roundw
        case rel => exact ⟨k + 1, by omega, by go_num, by rw [if_pos (by omega)], RR.out⟩
        case measure => simp [intOf]; omega
      · have hkc : kp ≠ ch := by
          rw [← kpe]
          exact hS.alone k (by simp; rw [Hlen.out]; exact hlt) hc
        obtain ⟨c1, t1, hor⟩ := hor
        obtain ⟨c2, t2, hop⟩ := hop
        have he := run_eql_ptr_other (P := Yba.prog) wx (tp := 40) (a := ⟨kp, 0, none⟩) (b := ⟨ch, 0, none⟩) Yba.underlying40 hj0 hs0 (fun h => hkc (congrArg Addr.block h)) hor hop
        clear hj0 hs0 kpe hor hop hkc
        go_wp2_with fail
        go_roundw
        case rel => exact ⟨k + 1, by omega, by go_num, by congr 1; by_cases h : cL < k <;> simp [h] <;> omega, RR.out⟩
        case measure => simp [intOf]; omega
    · have hkm : k = m := by omega
      subst hkm
      rw [if_pos hcl]
      go_wp2_with fail
      refine hK'.out _ _ ?_
      clear hK'
      obtain ⟨obk, obt, obv⟩ := R.owns hl' (by omega) (by omega) (by omega) (ek.fz (by simp; omega)) (et.fz (by simp; omega)) (ev.fz (by simp; omega))
      have F : FrO w wr (fun b _ => b = eB) := ((F1.trans (FrO.of_below hA1 (fun _ _ => False))).trans R.fr).strike (fun b o hb h => by
        rcases h with (h | h) | h
        · exact h
        · exact h.elim
        · omega)
      have hBT : Below B w0 wr := hB.trans (F.below H.Bs (fun b o h => h ▸ H.Be))
      exact t2_false B z ch sh x r sz len hint useHint _ _ _ _ _ _ _ _ _ _ _ _ _ _ _ _ _ _ _ _ _ _ _ _ _ _ _ _ oa on oc oVV _ _ _ _ _ _ _ _ _ _ _ _ _ _ _ _ _ w0 _ (sit_of H F hp hS obk obt obv zw (by omega) (by omega)) hBT hh1 hh2 _ _ _ _ _ _ _ _ _ _ _ _ _ _ _ _ _ _ _ _ _ _ _ _ _ _ _ _ _ _ _ _ _ _ _ _ _ _ _ _ _ _ _ _ _ _ _ _ _ _ _ _ _ _ _ _ _ _ _ _ _ _ _ _ _ _ _ _ _ _ _ _ _ _ _ _ _ _ _ _ _ _ _ _ _ _ _ _ _ _ _ _ _ _ _ _ _ _ _ _ _ _ _ _ _ _ _ _ _ _ _ _ _ _ _ _ _ _ _ _ _ _ _ _ _ _ _ _ _ _ _ _ _ _ _ _ _ _ _ _ _ _ _ _ _ _ _ _ _ _ _ _ _ _ _ _ _ _ _ _ _ _ _ _ _ _ _ _ _ _ _ _ _ _ _ _ _ _ _ _ _ _ _ _ _ _ _ _ _ _ _ _ _ _ _ _ _ _ _ _ _ _ _ _ _ _ _ _ _ _ _ _ _ _ _ _ _ _ _ _ _ _ _ _ _ _ _ _ _ _ _ _ _ _ _ _ _ _ _ _ _ _ _ _ _ _ _ _ _ _ _ _ _ _ _ _ _ _ _ _ _ _ _ _ _ _ _ _ _ _ _ _ _ _ _ _ _ _ _ _ _ _ _ _ _ _ _ _ _ _ _ _ _ _ _ _ _ _ _ _ _ _ _ _ _ _ _ _ _ _ _ _ _ _ _ _ _ _ _ _ _ _ _ _ _ _ _ _ _ _ _ _ _ _ _ _ _ _ _ _ _ _ _ _ _ _ _ _ _ _ _ _ _ _ _ _ _ _ _ _ _ _ _ _ _ _ _ _ _ _ _ _ _ _ _ _ _ _ _ _ _ _ _ _ _ _ _ _ _ _ _ _ _ _ _ _ _ _ _ _ _ _ _ _ _ _ _ _ _ _ _ _ _ _ _ _ _ _ _ _ _ _ _ _ _ _ _ _ _ _ _ _ _ _ _ _ _ _ _ _ _ _ _ _ _ _ _ _ _ _ _ _ _ _ _ _ _ _ _ _ _ _ _ _ _ _ _ _ _ _ _ _ _ _ _ _ _ _ _ _ _ _ _ _ _ _ _ _ _ _ _ _ _ _ _ _ _ _ _ _ _ _ _ _ _ _ _ _ _ _ _ _ _ _ _ _ _ _ _ _ _ _ _ _ _ _ _ _ _ _ _ _ _ _ _ _ _ _ _ _ _ _ _ _ _ _ _ _ _ _ _ _ _ _ _ _ _ _ _ _ _ _

set_option maxRecDepth 1000000 in
set_option maxHeartbeats 6400000 in
theorem t1_true (B z ch sh eB ec : Nat) (x r sz len hint : Int) (useHint : Bool) (qkB qvB lkB ltB lvB zkB ztB zvB okB ovB qkc qvc lkc ltc lvc zkc ztc zvc m qn ns nz : Nat) (oa : Option Addr) (on oc : Nat) (oVV : Value)
    (qk ok lk lt zk zt : List Int) (es : List Ent) (qps lps zps : List Nat) (ops : List (Option Nat)) (cQ sa za : Nat) (w0 w : World)
    (H : SitE w B z ch sh eB true x r sz len qkB qvB lkB ltB lvB zkB ztB zvB okB ovB qkc qvc lkc ltc lvc zkc ztc zvc m qn ns nz (.slice oa on oc) oVV qk ok lk lt zk zt es qps lps zps ops cQ sa za) (hec : m ≤ ec) (hB : Below B w0 w) (hh1 : -9223372036854775808 ≤ hint) (hh2 : hint ≤ 9223372036854775807)
    (u0 u1 u2 u3 u6 u7 u8 u9 u10 u11 u12 u13 u14 u15 u16 u17 u18 u19 u21 u23 u24 u29 u30 u37 u46 u47 u48 u49 u50 u51 u52 u53 u54 u55 u56 u57 u58 u59 u60 u61 u62 u63 u64 u65 u66 u67 u68 u69 u70 u71 u72 u73 u74 u75 u76 u77 u78 u79 u80 u81 u82 u83 u84 u85 u86 u87 u88 u89 u90 u91 u92 u93 u94 u95 u96 u97 u98 u99 u100 u101 u102 u103 u104 u105 u106 u107 u108 u109 u110 u111 u112 u113 u114 u115 u116 u117 u118 u119 u120 u121 u122 u123 u124 u125 u126 u127 u128 u129 u130 u131 u132 u133 u134 u135 u136 u137 u138 u139 u140 u141 u142 u143 u144 u145 u146 u147 u148 u149 u150 u151 u152 u153 u154 u155 u156 u157 u158 u159 u160 u161 u162 u163 u164 u165 u166 u167 u168 u169 u170 u171 u172 u173 u174 u175 u176 u177 u178 u179 u180 u181 u182 u183 u184 u185 u186 u187 u188 u189 u190 u191 u192 u193 u194 u195 u196 u197 u198 u199 u200 u201 u202 u203 u204 u205 u206 u207 u208 u209 u210 u211 u212 u213 u214 u215 u216 u217 u218 u219 u220 u221 u222 u223 u224 u225 u226 u227 u228 u229 u230 u231 u232 u233 u234 u235 u236 u237 u238 u239 u240 u241 u242 u243 u244 u245 u246 u247 u248 u249 u250 u251 u252 u253 u254 u255 u256 u257 u258 u259 u260 u261 u262 u263 u264 u265 u266 u267 u268 u269 u270 u271 u272 u273 u274 u275 u276 u277 u278 u279 u280 u281 u282 u283 u284 u285 u286 u287 u288 u289 u290 u291 u292 u293 u294 u295 u296 u297 u298 u299 u300 u301 u302 u303 u304 u305 u306 u307 u308 u309 u310 u311 u312 u313 u314 u315 u316 u317 u318 u319 u320 u321 u322 u323 u324 u325 u326 u327 u328 u329 u330 u331 u332 u333 u334 u335 u336 u337 u338 u339 u340 u341 u342 u343 u344 u345 u346 u347 u348 u349 u350 u351 u352 u353 u354 u355 u356 u357 u358 u359 u360 u361 u362 u363 u364 u365 u366 u367 u368 u369 u370 u371 u372 u373 u374 u375 u376 u377 u378 u379 u380 u381 u382 u383 u384 u385 u386 u387 u388 u389 u390 u391 u392 u393 u394 u395 u396 u397 u398 u399 u400 u401 u402 u403 u404 u405 u406 u407 u408 u409 u410 u411 u412 u413 u414 u415 u416 u417 u418 u419 u420 u421 u422 u423 u424 u425 u426 u427 u428 u429 u430 u431 u432 u433 u434 u435 u436 u437 u438 u439 u440 u441 u442 u443 u444 u445 u446 u447 u448 u449 u450 u451 u452 u453 u454 u455 u456 u457 u458 u459 u460 u461 u462 u463 u464 u465 u466 u467 u468 u469 u470 u471 u472 u473 u474 u475 u476 u477 u478 u479 u480 u481 u482 u483 u484 u485 u486 u487 u488 u489 u490 u491 u492 u493 u494 u495 u496 u497 u498 u499 u500 u501 u502 u503 u504 u505 u506 u507 u508 u509 u510 u511 u512 u513 u514 u515 u516 u517 u518 u519 u520 u521 u522 u523 u524 u525 u526 u527 u528 u529 u530 u531 u532 u533 u534 u535 u536 u537 u538 u539 u540 u541 u542 u543 u544 u545 u546 u547 u548 u549 u550 u551 u552 u553 u554 u555 u556 u557 u558 u559 u560 u561 u562 u563 u564 u565 u566 u567 u568 u569 u570 u571 u572 u573 u574 u575 u576 u577 u578 u579 u580 u581 u582 u583 u584 u585 u586 : Value) :
    Code.wp Yba.prog (tailAt 63 (bodyOf Yba.f3)) (bodyPost Yba.prog Yba.f3 fun e w' => e = .returned (.bool true) ∧ Below B w0 w') ⟨#[u0, u1, u2, u3, .bool useHint, .int .i64 hint, u6, u7, u8, u9, u10, u11, u12, u13, u14, u15, u16, u17, u18, u19, .bool false, u21, .int .i64 m, u23, u24, .int .i64 za, .slice (some ⟨zkB, 0, none⟩) nz zkc, .slice (some ⟨ztB, 0, none⟩) nz ztc, .slice (some ⟨zvB, 0, none⟩) nz zvc, u29, u30, .pointer (some ⟨z, 0, none⟩), .int .i64 ns, .int .i64 sa, .slice (some ⟨lkB, 0, none⟩) ns lkc, .slice (some ⟨ltB, 0, none⟩) ns ltc, .slice (some ⟨lvB, 0, none⟩) ns lvc, u37, .pointer (some ⟨sh, 0, none⟩), .slice (some ⟨eB, 0, none⟩) m ec, .pointer (some ⟨ch, 0, none⟩), .slice oa on oc, .slice (some ⟨qkB, 0, none⟩) qn qkc, oVV, .slice (some ⟨qvB, 0, none⟩) qn qvc, .int .i64 cQ, u46, u47, u48, u49, u50, u51, u52, u53, u54, u55, u56, u57, u58, u59, u60, u61, u62, u63, u64, u65, u66, u67, u68, u69, u70, u71, u72, u73, u74, u75, u76, u77, u78, u79, u80, u81, u82, u83, u84, u85, u86, u87, u88, u89, u90, u91, u92, u93, u94, u95, u96, u97, u98, u99, u100, u101, u102, u103, u104, u105, u106, u107, u108, u109, u110, u111, u112, u113, u114, u115, u116, u117, u118, u119, u120, u121, u122, u123, u124, u125, u126, u127, u128, u129, u130, u131, u132, u133, u134, u135, u136, u137, u138, u139, u140, u141, u142, u143, u144, u145, u146, u147, u148, u149, u150, u151, u152, u153, u154, u155, u156, u157, u158, u159, u160, u161, u162, u163, u164, u165, u166, u167, u168, u169, u170, u171, u172, u173, u174, u175, u176, u177, u178, u179, u180, u181, u182, u183, u184, u185, u186, u187, u188, u189, u190, u191, u192, u193, u194, u195, u196, u197, u198, u199, u200, u201, u202, u203, u204, u205, u206, u207, u208, u209, u210, u211, u212, u213, u214, u215, u216, u217, u218, u219, u220, u221, u222, u223, u224, u225, u226, u227, u228, u229, u230, u231, u232, u233, u234, u235, u236, u237, u238, u239, u240, u241, u242, u243, u244, u245, u246, u247, u248, u249, u250, u251, u252, u253, u254, u255, u256, u257, u258, u259, u260, u261, u262, u263, u264, u265, u266, u267, u268, u269, u270, u271, u272, u273, u274, u275, u276, u277, u278, u279, u280, u281, u282, u283, u284, u285, u286, u287, u288, u289, u290, u291, u292, u293, u294, u295, u296, u297, u298, u299, u300, u301, u302, u303, u304, u305, u306, u307, u308, u309, u310, u311, u312, u313, u314, u315, u316, u317, u318, u319, u320, u321, u322, u323, u324, u325, u326, u327, u328, u329, u330, u331, u332, u333, u334, u335, u336, u337, u338, u339, u340, u341, u342, u343, u344, u345, u346, u347, u348, u349, u350, u351, u352, u353, u354, u355, u356, u357, u358, u359, u360, u361, u362, u363, u364, u365, u366, u367, u368, u369, u370, u371, u372, u373, u374, u375, u376, u377, u378, u379, u380, u381, u382, u383, u384, u385, u386, u387, u388, u389, u390, u391, u392, u393, u394, u395, u396, u397, u398, u399, u400, u401, u402, u403, u404, u405, u406, u407, u408, u409, u410, u411, u412, u413, u414, u415, u416, u417, u418, u419, u420, u421, u422, u423, u424, u425, u426, u427, u428, u429, u430, u431, u432, u433, u434, u435, u436, u437, u438, u439, u440, u441, u442, u443, u444, u445, u446, u447, u448, u449, u450, u451, u452, u453, u454, u455, u456, u457, u458, u459, u460, u461, u462, u463, u464, u465, u466, u467, u468, u469, u470, u471, u472, u473, u474, u475, u476, u477, u478, u479, u480, u481, u482, u483, u484, u485, u486, u487, u488, u489, u490, u491, u492, u493, u494, u495, u496, u497, u498, u499, u500, u501, u502, u503, u504, u505, u506, u507, u508, u509, u510, u511, u512, u513, u514, u515, u516, u517, u518, u519, u520, u521, u522, u523, u524, u525, u526, u527, u528, u529, u530, u531, u532, u533, u534, u535, u536, u537, u538, u539, u540, u541, u542, u543, u544, u545, u546, u547, u548, u549, u550, u551, u552, u553, u554, u555, u556, u557, u558, u559, u560, u561, u562, u563, u564, u565, u566, u567, u568, u569, u570, u571, u572, u573, u574, u575, u576, u577, u578, u579, u580, u581, u582, u583, u584, u585, u586], []⟩ w := by
  obtain ⟨lm, hm0, hm5⟩ := H.lm
  have hsz : es.toArray.size = m := by simpa using lm
  have S := sort_any eB 0 ec es.toArray w (holds_of_ents H.ents H.fe) H.el (by omega)
  rw [hsz] at S
  have HS := hidden S
  clear S
  have mk1 := fun w => make22 w m hm5
  have mk2 := fun w => make34 w m hm5
  conv => arg 2; whnf
  go_wp2_with fail
  refine HS.out.mono ?_
  rintro e w1 ⟨rfl, d, n, os, hperm, hsort, hw1⟩
  obtain ⟨es', ees⟩ : ∃ es', es' = d.toList := ⟨_, rfl⟩
  have hds : d.size = m := by rw [hperm.1]; exact hsz
  have hl' : es'.length = m := by rw [ees]; simpa using hds
  have hp : es'.Perm es := by
    have h := hperm.2.2
    rw [show d.extract 0 m = d by rw [← hds]; simp, show es.toArray.extract 0 m = es.toArray by rw [← hsz]; simp] at h
    rw [ees]
    simpa using h
  have hs : ∀ i j, i < j → j < es'.length → ltOf cmpE (es'.getD j (0, 0, 0)) (es'.getD i (0, 0, 0)) = false := fun i j hij hj => by
    have hj' : j < d.size := by omega
    have hi' : i < d.size := by omega
    have h := hsort i j (Nat.zero_le _) hij (by omega)
    rw [ees]
    simpa [List.getD, hj', hi'] using h
  obtain ⟨cL, hS⟩ := seat_sorted w es es' hp hs H.ht H.hb H.ho x r ch H.hm
  have F1 : FrO w w1 (fun b _ => b = eB) := by rw [hw1]; exact frame_sort w eB n d os
  have E1 : EntsAt w1 eB es' := by
    rw [hw1, ees]
    exact ents_of_holds (holdsK_sortWorldK encE 3 w eB 0 n es.toArray d os H.el (holds_of_ents H.ents H.fe) (by omega))
  clear hw1 hperm hsort HS ees
  obtain ⟨w2, hw2⟩ : ∃ w2, w2 = ((w1.alloc (newRow' (.int .i64 0) m 2)).alloc (newRow' (.int .i64 0) m 2)).alloc (newRow' (.pointer none) m 40) := ⟨_, rfl⟩
  have hcl : cL < m := by have := hS.lt; simp at this; omega
  have zw := F1.size
  have hA1 : Below w1.heap.size w1 w2 := by
    rw [hw2]
    exact (((Below.refl _ w1).alloc (Nat.le_refl _) _).alloc (by rw [size_alloc']; omega) _).alloc (by rw [size_alloc', size_alloc']; omega) _
  have hN2 : w2.heap.size = w1.heap.size + 3 := by rw [hw2, size_alloc', size_alloc', size_alloc']
  have ek : Own w2 w1.heap.size (.slice (some ⟨w1.heap.size, 0, none⟩) m m) (List.replicate m (.int .i64 0)) := by
    rw [hw2]
    exact ((make_own w1 _ m 2 rfl).kept (FrO.of_below (below_alloc _ _) (fun _ _ => False)) (fun _ h => h)).kept (FrO.of_below (below_alloc _ _) (fun _ _ => False)) (fun _ h => h)
  have et : Own w2 (w1.heap.size + 1) (.slice (some ⟨w1.heap.size + 1, 0, none⟩) m m) (List.replicate m (.int .i64 0)) := by
    rw [hw2]
    have h := make_own (w1.alloc (newRow' (.int .i64 0) m 2)) (.int .i64 0) m 2 rfl
    rw [size_alloc' w1] at h
    exact h.kept (FrO.of_below (below_alloc _ _) (fun _ _ => False)) (fun _ h => h)
  have ev : Own w2 (w1.heap.size + 1 + 1) (.slice (some ⟨w1.heap.size + 1 + 1, 0, none⟩) m m) (List.replicate m (.pointer none)) := by
    rw [hw2]
    have h := make_own ((w1.alloc (newRow' (.int .i64 0) m 2)).alloc (newRow' (.int .i64 0) m 2)) (.pointer none) m 40 rfl
    rw [size_alloc', size_alloc' w1] at h
    exact h
  have E2 : EntsAt w2 eB es' := fun j hj => by
    obtain ⟨a, b, c⟩ := E1 j hj
    exact ⟨(hA1.cell (lt_of_cell a)).trans a, (hA1.cell (lt_of_cell b)).trans b, (hA1.cell (lt_of_cell c)).trans c⟩
  have eL : eB < w1.heap.size := Nat.lt_of_lt_of_le H.el F1.size
  have R0 : Fill w2 w2 w1.heap.size (w1.heap.size + 1) (w1.heap.size + 1 + 1) es' 0 := ⟨FrO.refl _ _, fun j hj => by omega, fun j hj => by omega, fun j hj => by omega,
    fun j hj => ⟨_, (ek.row j (by simp; omega)).trans (List.getElem?_eq_getElem (by simp; omega))⟩, fun j hj => ⟨_, (et.row j (by simp; omega)).trans (List.getElem?_eq_getElem (by simp; omega))⟩, fun j hj => ⟨_, (ev.row j (by simp; omega)).trans (List.getElem?_eq_getElem (by simp; omega))⟩⟩
  have HE := hidden E2
  have HW := hidden hw2
  clear E2 E1
  go_upto_region 68 with fail
  rename_i KO hKO KI hKI
  have hK' := hidden hKO
  clear hKO
  go_wp2_with fail
  rw [← HW.out]
  clear hw2
  go_loopw [53, 54] (fun c i wr => ∃ k : Nat, k ≤ m ∧ i = .int .i64 k ∧ c = .int .i64 (if cL < k then (cL : Int) else 0) ∧ Fill w2 wr w1.heap.size (w1.heap.size + 1) (w1.heap.size + 1 + 1) es' k) (fun _ i _ => m - (intOf i).toNat)
  case atStart => exact ⟨0, Nat.zero_le _, rfl, rfl, R0⟩
  case round =>
    obtain ⟨k, hk, rfl, rfl, R⟩ := hrel
    by_cases hlt : k < m
    · obtain ⟨e0, e1, e2⟩ := HE.out k (by omega)
      obtain ⟨ka, kb, kp, ekv⟩ : ∃ ka kb kp, es'.getD k (0, 0, 0) = (ka, kb, kp) := ⟨_, _, _, rfl⟩
      rw [ekv] at e0 e1 e2
      dsimp only at e0 e1 e2
      have HKV := hidden ekv
      clear ekv
      have g0 := R.fr.some e0 (by omega)
      have g1 := R.fr.some e1 (by omega)
      have g2 := R.fr.some e2 (by omega)
      obtain ⟨uk, xk⟩ := R.xk k (by omega)
      obtain ⟨ut, xt⟩ := R.xt k (by omega)
      obtain ⟨uv, xv⟩ := R.xv k (by omega)
      have fk : wr.frozen? ⟨w1.heap.size, k, none⟩ = false := (R.fr.frozen _ _ (by omega)).trans (ek.fz (by simp; omega) k)
      have ft : wr.frozen? ⟨w1.heap.size + 1, k, none⟩ = false := (R.fr.frozen _ _ (by omega)).trans (et.fz (by simp; omega) k)
      have fv : wr.frozen? ⟨w1.heap.size + 1 + 1, k, none⟩ = false := (R.fr.frozen _ _ (by omega)).trans (ev.fz (by simp; omega) k)
      have HR := hidden R
      have Hlen := hidden hl'
      clear e0 e1 e2 R hl' R0 ek et ev
      go_upto_region 71 with fail
      go_region
      clear g0 g1 xk xt xv fk ft fv
      go_upto_region 72 with fail
      obtain ⟨wx, hwx⟩ : ∃ wx, wx = (((wr.setCell ⟨w1.heap.size, k, none⟩ (.int .i64 ka)).setCell ⟨w1.heap.size + 1, k, none⟩ (.int .i64 kb)).setCell ⟨w1.heap.size + 1 + 1, k, none⟩ (.pointer (some ⟨kp, 0, none⟩))).drew := ⟨_, rfl⟩
      have R' : Fill w2 wx w1.heap.size (w1.heap.size + 1) (w1.heap.size + 1 + 1) es' (k + 1) := by
        have h := HR.out.step (by rw [Hlen.out]; exact hlt) (by omega) (by omega) (by omega) 1
        rw [HKV.out] at h
        rw [hwx]
        exact h
      rw [← hwx]
      have g2' : wx.cell? ⟨eB, k * 3 + 2, none⟩ = some (.pointer (some ⟨kp, 0, none⟩)) := by
        have h := (HE.out k (by rw [Hlen.out]; exact hlt)).2.2
        rw [HKV.out] at h
        exact R'.fr.some h (by omega)
      clear g2 hwx
      have hor : Obj wx kp := R'.fr.obj _ ((FrO.of_below hA1 (fun _ _ => False)).obj _ (F1.obj _ (H.ho (ka, kb, kp) (hp.mem_iff.1 (by
        have h := HKV.out
        rw [getD_nat (by rw [Hlen.out]; exact hlt)] at h
        rw [← h]
        exact List.getElem_mem _)))))
      have hop : Obj wx ch := R'.fr.obj _ ((FrO.of_below hA1 (fun _ _ => False)).obj _ (F1.obj _ (H.ho (x, r, ch) H.hm)))
      have kpe : (es'.map (fun e => e.2.2)).getD k 0 = kp := by
        have h := HKV.out
        have hk' : k < es'.length := by rw [Hlen.out]; exact hlt
        rw [getD_nat hk'] at h
        simp [List.getD, hk', h]
      have RR := hidden R'
      clear R'
      obtain ⟨j0, hj0, hs0⟩ := Yba.info53
      by_cases hc : k = cL
      · subst hc
        have hkc : kp = ch := by rw [← kpe]; exact hS.at_
        subst hkc
        have he := fun w => run_eql_ptr_same (P := Yba.prog) w (tp := 40) ⟨kp, 0, none⟩ Yba.underlying40 hj0
        clear hj0 hs0 kpe hor hop
        go_wp2_with fail
        go_roundw
        case rel => exact ⟨k + 1, by omega, by go_num, by rw [if_pos (by omega)], RR.out⟩
        case measure => simp [intOf]; omega
      · have hkc : kp ≠ ch := by
          rw [← kpe]
          exact hS.alone k (by simp; rw [Hlen.out]; exact hlt) hc
        obtain ⟨c1, t1, hor⟩ := hor
        obtain ⟨c2, t2, hop⟩ := hop
        have he := run_eql_ptr_other (P := Yba.prog) wx (tp := 40) (a := ⟨kp, 0, none⟩) (b := ⟨ch, 0, none⟩) Yba.underlying40 hj0 hs0 (fun h => hkc (congrArg Addr.block h)) hor hop
        clear hj0 hs0 kpe hor hop hkc
        go_wp2_with fail
        go_roundw
        case rel => exact ⟨k + 1, by omega, by go_num, by congr 1; by_cases h : cL < k <;> simp [h] <;> omega, RR.out⟩
        case measure => simp [intOf]; omega
    · have hkm : k = m := by omega
      subst hkm
      rw [if_pos hcl]
      go_wp2_with fail
      refine hK'.out _ _ ?_
      clear hK'
      obtain ⟨obk, obt, obv⟩ := R.owns hl' (by omega) (by omega) (by omega) (ek.fz (by simp; omega)) (et.fz (by simp; omega)) (ev.fz (by simp; omega))
      have F : FrO w wr (fun b _ => b = eB) := ((F1.trans (FrO.of_below hA1 (fun _ _ => False))).trans R.fr).strike (fun b o hb h => by
        rcases h with (h | h) | h
        · exact h
        · exact h.elim
        · omega)
      have hBT : Below B w0 wr := hB.trans (F.below H.Bs (fun b o h => h ▸ H.Be))
      exact t2_true B z ch sh x r sz len hint useHint _ _ _ _ _ _ _ _ _ _ _ _ _ _ _ _ _ _ _ _ _ _ _ _ _ _ _ _ oa on oc oVV _ _ _ _ _ _ _ _ _ _ _ _ _ _ _ _ _ w0 _ (sit_of H F hp hS obk obt obv zw (by omega) (by omega)) hBT hh1 hh2 _ _ _ _ _ _ _ _ _ _ _ _ _ _ _ _ _ _ _ _ _ _ _ _ _ _ _ _ _ _ _ _ _ _ _ _ _ _ _ _ _ _ _ _ _ _ _ _ _ _ _ _ _ _ _ _ _ _ _ _ _ _ _ _ _ _ _ _ _ _ _ _ _ _ _ _ _ _ _ _ _ _ _ _ _ _ _ _ _ _ _ _ _ _ _ _ _ _ _ _ _ _ _ _ _ _ _ _ _ _ _ _ _ _ _ _ _ _ _ _ _ _ _ _ _ _ _ _ _ _ _ _ _ _ _ _ _ _ _ _ _ _ _ _ _ _ _ _ _ _ _ _ _ _ _ _ _ _ _ _ _ _ _ _ _ _ _ _ _ _ _ _ _ _ _ _ _ _ _ _ _ _ _ _ _ _ _ _ _ _ _ _ _ _ _ _ _ _ _ _ _ _ _ _ _ _ _ _ _ _ _ _ _ _ _ _ _ _ _ _ _ _ _ _ _ _ _ _ _ _ _ _ _ _ _ _ _ _ _ _ _ _ _ _ _ _ _ _ _ _ _ _ _ _ _ _ _ _ _ _ _ _ _ _ _ _ _ _ _ _ _ _ _ _ _ _ _ _ _ _ _ _ _ _ _ _ _ _ _ _ _ _ _ _ _ _ _ _ _ _ _ _ _ _ _ _ _ _ _ _ _ _ _ _ _ _ _ _ _ _ _ _ _ _ _ _ _ _ _ _ _ _ _ _ _ _ _ _ _ _ _ _ _ _ _ _ _ _ _ _ _ _ _ _ _ _ _ _ _ _ _ _ _ _ _ _ _ _ _ _ _ _ _ _ _ _ _ _ _ _ _ _ _ _ _ _ _ _ _ _ _ _ _ _ _ _ _ _ _ _ _ _ _ _ _ _ _ _ _ _ _ _ _ _ _ _ _ _ _ _ _ _ _ _ _ _ _ _ _ _ _ _ _ _ _ _ _ _ _ _ _ _ _ _ _ _ _ _ _ _ _ _ _ _ _ _ _ _ _ _ _ _ _ _ _ _ _ _ _ _ _ _ _ _ _ _ _ _ _ _ _ _ _ _ _ _ _ _ _ _ _ _ _ _ _ _ _ _ _ _ _ _ _ _ _ _ _ _ _ _ _ _ _ _ _ _ _ _ _ _ _ _ _ _ _ _ _ _ _ _ _ _ _ _ _ _ _ _ _ _ _ _ _ _ _ _ _ _ _ _ _ _ _ _ _ _ _ _ _ _ _ _

end Go.Proofs.Ybulkexnkw
