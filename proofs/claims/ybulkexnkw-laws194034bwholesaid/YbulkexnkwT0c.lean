import Derived.Test.YbulkexnkwSitA
import Derived.Test.YbulkexnkwChain
import Derived.Test.YbulkexnkwT1
import Derived.Deep.CutRange
namespace Go.Proofs.Ybulkexnkw
open Go.RowKit Go.Sort
set_option linter.unusedVariables false

/-- An argument's row: read at 'ad.add j', in an old block other than eB. -/
def ArgAt (w : World) (eB : Nat) (a : Option Addr) (n : Nat) (f : Nat → Value) : Prop := 0 < n → ∃ ad : Addr, a = some ad ∧ ad.block < w.heap.size ∧ ad.block ≠ eB ∧ ∀ j, j < n → w.cell? (ad.add j) = some (f j)
theorem add_block (a : Addr) (j : Nat) : (a.add j).block = a.block := by
  unfold Addr.add
  split <;> rfl
theorem new_one (W : World) (v : Value) (t : TypeId) : ∀ j u, [v][j]? = some u → (W.alloc (.cells #[v] t)).cell? ((⟨W.heap.size, 0, none⟩ : Addr).add j) = some u := fun j u h => by
  have e : (W.alloc (.cells #[v] t)).heap[W.heap.size]? = some (.cells #[v] t) := heap_alloc_new _ _
  have hj : j = 0 := by
    have := (List.getElem?_eq_some_iff.1 h).1
    simp at this
    exact this
  subst hj
  simp at h
  subst h
  generalize W.alloc (.cells #[v] t) = W' at e
  rw [addr_add]
  simp [World.cell?, e]
theorem own_slice {w : World} {base t n : Nat} {v : Value} {vs : List Value} (h : w.ownsRow base t 1 v n vs) : ∃ a c, v = .slice a n c := by
  obtain ⟨_, ⟨h1, h2⟩ | ⟨g, cap, cur, e, _⟩⟩ := h
  · subst h2
    exact ⟨_, _, h1⟩
  · exact ⟨_, _, e⟩
theorem made_start {w : World} {eB m p : Nat} {ls gs : List Int} {cs : List Bool} {sz : Int} (heB : eB < w.heap.size) (xe : ∀ o, o < m * 3 → ∃ v, w.cell? ⟨eB, o, none⟩ = some v) :
    Made w w eB m p ls gs cs sz (fun _ => 0) 0 (.pointer none) (fun _ => .slice none 0 0) (fun _ => .slice none 0 0) 0 where
  fr := FrO.refl _ _
  ents := fun j hj => by omega
  ex := xe
  inc := fun i j _ hj => by omega
  lo := fun j hj => by omega
  obj := fun j hj => by omega
  nr := fun j hj => by omega
  two := fun t => two_start _ _ _ _ _ _
  d1 := fun _ _ b h => by simp [Value.ownBlock] at h
  d2 := fun b h => by simp [Value.ownBlock] at h
  d3 := fun b h => by simp [Value.ownBlock] at h
  before := fun _ => ⟨rfl, rfl⟩
  after := fun h => by omega

set_option maxRecDepth 1000000 in
set_option maxHeartbeats 3200000 in
theorem t0c (B z sh eB : Nat) (sz len hint : Int) (useHint : Bool) (ca ga : Option Addr) (lad : Addr) (cn cc gn gc lc m p nz ns sa za lkB ltB lvB zkB ztB zvB lkc ltc lvc zkc ztc zvc : Nat) (w0 w : World) (ls gs lk lt zk zt : List Int) (cs : List Bool) (lps zps : List Nat)
    (A : SitA w B z sh sz len lkB ltB lvB zkB ztB zvB lkc ltc lvc zkc ztc zvc ns nz lk lt zk zt lps zps sa za)
    (hm5 : m ≤ 4096) (hp : p < m) (hlc : m ≤ lc) (hcc : cn ≤ cc) (hgc : gn ≤ gc) (lcs : cs.length = cn) (lgs : gs.length = gn) (hg0 : ∀ g, g ∈ gs → 0 ≤ g) (hg1 : ∀ g, g ∈ gs → g ≤ 255)
    (hls : ArgAt w eB (some lad) m (fun j => .int .i64 (ls.getD j 0))) (hcs : ArgAt w eB ca cn (fun j => .bool (cs.getD j false))) (hgs : ArgAt w eB ga gn (fun j => .int .u8 (gs.getD j 0)))
    (hr : ∀ j, -9223372036854775808 ≤ ls.getD j 0 ∧ ls.getD j 0 ≤ 9223372036854775807)
    (heB : eB < w.heap.size) (fe : ∀ o, w.frozen? ⟨eB, o, none⟩ = false) (xe : ∀ o, o < m * 3 → ∃ v, w.cell? ⟨eB, o, none⟩ = some v) (Be : B ≤ eB) (ne : ∀ b, b ∈ [lkB, ltB, lvB, zkB, ztB, zvB, z, sh] → b ≠ eB)
    (hB : Below B w0 w) (hh1 : -9223372036854775808 ≤ hint) (hh2 : hint ≤ 9223372036854775807)
    (u0 u3 u6 u7 u8 u9 u10 u11 u12 u13 u14 u15 u16 u17 u18 u19 u24 u29 u37 u40 u41 u42 u43 u44 u45 u46 u47 u48 u49 u50 u51 u52 u53 u54 u55 u56 u57 u58 u59 u60 u61 u62 u63 u64 u65 u66 u67 u68 u69 u70 u71 u72 u73 u74 u75 u76 u77 u78 u79 u80 u81 u82 u83 u84 u85 u86 u87 u88 u89 u90 u91 u92 u93 u94 u95 u96 u97 u98 u99 u100 u101 u102 u103 u104 u105 u106 u107 u108 u109 u110 u111 u112 u113 u114 u115 u116 u117 u118 u119 u120 u121 u122 u123 u124 u125 u126 u127 u128 u129 u130 u131 u132 u133 u134 u135 u136 u137 u138 u139 u140 u141 u142 u143 u144 u145 u146 u147 u148 u149 u150 u151 u152 u153 u154 u155 u156 u157 u158 u159 u160 u161 u162 u163 u164 u165 u166 u167 u168 u169 u170 u171 u172 u173 u174 u175 u176 u177 u178 u179 u180 u181 u182 u183 u184 u185 u186 u187 u188 u189 u190 u191 u192 u193 u194 u195 u196 u197 u198 u199 u200 u201 u202 u203 u204 u205 u206 u207 u208 u209 u210 u211 u212 u213 u214 u215 u216 u217 u218 u219 u220 u221 u222 u223 u224 u225 u226 u227 u228 u229 u230 u231 u232 u233 u234 u235 u236 u237 u238 u239 u240 u241 u242 u243 u244 u245 u246 u247 u248 u249 u250 u251 u252 u253 u254 u255 u256 u257 u258 u259 u260 u261 u262 u263 u264 u265 u266 u267 u268 u269 u270 u271 u272 u273 u274 u275 u276 u277 u278 u279 u280 u281 u282 u283 u284 u285 u286 u287 u288 u289 u290 u291 u292 u293 u294 u295 u296 u297 u298 u299 u300 u301 u302 u303 u304 u305 u306 u307 u308 u309 u310 u311 u312 u313 u314 u315 u316 u317 u318 u319 u320 u321 u322 u323 u324 u325 u326 u327 u328 u329 u330 u331 u332 u333 u334 u335 u336 u337 u338 u339 u340 u341 u342 u343 u344 u345 u346 u347 u348 u349 u350 u351 u352 u353 u354 u355 u356 u357 u358 u359 u360 u361 u362 u363 u364 u365 u366 u367 u368 u369 u370 u371 u372 u373 u374 u375 u376 u377 u378 u379 u380 u381 u382 u383 u384 u385 u386 u387 u388 u389 u390 u391 u392 u393 u394 u395 u396 u397 u398 u399 u400 u401 u402 u403 u404 u405 u406 u407 u408 u409 u410 u411 u412 u413 u414 u415 u416 u417 u418 u419 u420 u421 u422 u423 u424 u425 u426 u427 u428 u429 u430 u431 u432 u433 u434 u435 u436 u437 u438 u439 u440 u441 u442 u443 u444 u445 u446 u447 u448 u449 u450 u451 u452 u453 u454 u455 u456 u457 u458 u459 u460 u461 u462 u463 u464 u465 u466 u467 u468 u469 u470 u471 u472 u473 u474 u475 u476 u477 u478 u479 u480 u481 u482 u483 u484 u485 u486 u487 u488 u489 u490 u491 u492 u493 u494 u495 u496 u497 u498 u499 u500 u501 u502 u503 u504 u505 u506 u507 u508 u509 u510 u511 u512 u513 u514 u515 u516 u517 u518 u519 u520 u521 u522 u523 u524 u525 u526 u527 u528 u529 u530 u531 u532 u533 u534 u535 u536 u537 u538 u539 u540 u541 u542 u543 u544 u545 u546 u547 u548 u549 u550 u551 u552 u553 u554 u555 u556 u557 u558 u559 u560 u561 u562 u563 u564 u565 u566 u567 u568 u569 u570 u571 u572 u573 u574 u575 u576 u577 u578 u579 u580 u581 u582 u583 u584 u585 u586 : Value) :
    Code.wp Yba.prog (tailAt 34 (bodyOf Yba.f3)) (bodyPost Yba.prog Yba.f3 fun e w' => e = .returned (.bool true) ∧ Below B w0 w') ⟨#[u0, .slice ca cn cc, .slice ga gn gc, u3, .bool useHint, .int .i64 hint, u6, u7, u8, u9, u10, u11, u12, u13, u14, u15, u16, u17, u18, u19, .bool false, .slice (some lad) m lc, .int .i64 m, .int .i64 p, u24, .int .i64 za, .slice (some ⟨zkB, 0, none⟩) nz zkc, .slice (some ⟨ztB, 0, none⟩) nz ztc, .slice (some ⟨zvB, 0, none⟩) nz zvc, u29, .int .i64 sz, .pointer (some ⟨z, 0, none⟩), .int .i64 ns, .int .i64 sa, .slice (some ⟨lkB, 0, none⟩) ns lkc, .slice (some ⟨ltB, 0, none⟩) ns ltc, .slice (some ⟨lvB, 0, none⟩) ns lvc, u37, .pointer (some ⟨sh, 0, none⟩), .slice (some ⟨eB, 0, none⟩) m m, u40, u41, u42, u43, u44, u45, u46, u47, u48, u49, u50, u51, u52, u53, u54, u55, u56, u57, u58, u59, u60, u61, u62, u63, u64, u65, u66, u67, u68, u69, u70, u71, u72, u73, u74, u75, u76, u77, u78, u79, u80, u81, u82, u83, u84, u85, u86, u87, u88, u89, u90, u91, u92, u93, u94, u95, u96, u97, u98, u99, u100, u101, u102, u103, u104, u105, u106, u107, u108, u109, u110, u111, u112, u113, u114, u115, u116, u117, u118, u119, u120, u121, u122, u123, u124, u125, u126, u127, u128, u129, u130, u131, u132, u133, u134, u135, u136, u137, u138, u139, u140, u141, u142, u143, u144, u145, u146, u147, u148, u149, u150, u151, u152, u153, u154, u155, u156, u157, u158, u159, u160, u161, u162, u163, u164, u165, u166, u167, u168, u169, u170, u171, u172, u173, u174, u175, u176, u177, u178, u179, u180, u181, u182, u183, u184, u185, u186, u187, u188, u189, u190, u191, u192, u193, u194, u195, u196, u197, u198, u199, u200, u201, u202, u203, u204, u205, u206, u207, u208, u209, u210, u211, u212, u213, u214, u215, u216, u217, u218, u219, u220, u221, u222, u223, u224, u225, u226, u227, u228, u229, u230, u231, u232, u233, u234, u235, u236, u237, u238, u239, u240, u241, u242, u243, u244, u245, u246, u247, u248, u249, u250, u251, u252, u253, u254, u255, u256, u257, u258, u259, u260, u261, u262, u263, u264, u265, u266, u267, u268, u269, u270, u271, u272, u273, u274, u275, u276, u277, u278, u279, u280, u281, u282, u283, u284, u285, u286, u287, u288, u289, u290, u291, u292, u293, u294, u295, u296, u297, u298, u299, u300, u301, u302, u303, u304, u305, u306, u307, u308, u309, u310, u311, u312, u313, u314, u315, u316, u317, u318, u319, u320, u321, u322, u323, u324, u325, u326, u327, u328, u329, u330, u331, u332, u333, u334, u335, u336, u337, u338, u339, u340, u341, u342, u343, u344, u345, u346, u347, u348, u349, u350, u351, u352, u353, u354, u355, u356, u357, u358, u359, u360, u361, u362, u363, u364, u365, u366, u367, u368, u369, u370, u371, u372, u373, u374, u375, u376, u377, u378, u379, u380, u381, u382, u383, u384, u385, u386, u387, u388, u389, u390, u391, u392, u393, u394, u395, u396, u397, u398, u399, u400, u401, u402, u403, u404, u405, u406, u407, u408, u409, u410, u411, u412, u413, u414, u415, u416, u417, u418, u419, u420, u421, u422, u423, u424, u425, u426, u427, u428, u429, u430, u431, u432, u433, u434, u435, u436, u437, u438, u439, u440, u441, u442, u443, u444, u445, u446, u447, u448, u449, u450, u451, u452, u453, u454, u455, u456, u457, u458, u459, u460, u461, u462, u463, u464, u465, u466, u467, u468, u469, u470, u471, u472, u473, u474, u475, u476, u477, u478, u479, u480, u481, u482, u483, u484, u485, u486, u487, u488, u489, u490, u491, u492, u493, u494, u495, u496, u497, u498, u499, u500, u501, u502, u503, u504, u505, u506, u507, u508, u509, u510, u511, u512, u513, u514, u515, u516, u517, u518, u519, u520, u521, u522, u523, u524, u525, u526, u527, u528, u529, u530, u531, u532, u533, u534, u535, u536, u537, u538, u539, u540, u541, u542, u543, u544, u545, u546, u547, u548, u549, u550, u551, u552, u553, u554, u555, u556, u557, u558, u559, u560, u561, u562, u563, u564, u565, u566, u567, u568, u569, u570, u571, u572, u573, u574, u575, u576, u577, u578, u579, u580, u581, u582, u583, u584, u585, u586], []⟩ w := by
  conv => arg 2; whnf
  go_upto_region 39 with fail
  rename_i KO hKO KI hKI
  have hK' := hidden hKO
  clear hKO
  go_wp2_with fail
  go_loopw [40, 41, 42, 43, 44, 45, 46, 47] (fun c sk ck sv cv q rnk i wr => ∃ (k : Nat) (blk : Nat → Nat) (kv vv : Bool → Value) (qi : Int), k ≤ m ∧ i = .int .i64 k ∧ rnk = .int .i64 (rk gs k) ∧ sk = kv false ∧ ck = kv true ∧ sv = vv false ∧ cv = vv true ∧ q = .int .i64 qi ∧ Made w wr eB m p ls gs cs sz blk k c kv vv qi) (fun _ _ _ _ _ _ _ i _ => m - (intOf i).toNat)
  case atStart => exact ⟨0, fun _ => 0, fun _ => .slice none 0 0, fun _ => .slice none 0 0, 0, by omega, rfl, rfl, rfl, rfl, rfl, rfl, rfl, made_start heB xe⟩
  case round =>
    obtain ⟨k, blk, kv, vv, qi, hk, rfl, rfl, rfl, rfl, rfl, rfl, rfl, M⟩ := hrel
    by_cases hlt : k < m
    · have hgk : 0 ≤ gs.getD k 0 ∧ gs.getD k 0 ≤ 255 := by
        by_cases h : k < gs.length
        · simp only [List.getD, List.getElem?_eq_getElem h, Option.getD_some]
          exact ⟨hg0 _ (List.getElem_mem h), hg1 _ (List.getElem_mem h)⟩
        · simp [List.getD, List.getElem?_eq_none (Nat.le_of_not_lt h)]
      have hrk : rk gs (k + 1) = rk gs k + (1 + gs.getD k 0) := rfl
      have hr1 := rk_nonneg hg0 k
      have hr2 := rk_le hg1 k
      obtain ⟨g, hg⟩ : ∃ g, gs.getD k 0 = g := ⟨_, rfl⟩
      obtain ⟨r, hrr⟩ : ∃ r, rk gs k = r := ⟨_, rfl⟩
      have HG := hidden hg
      have HRR := hidden hrr
      rw [hg, hrr] at hrk
      rw [hg] at hgk
      rw [hrr] at hr1 hr2 ⊢
      have HRK := hidden hrk
      clear hg hrr hrk
      obtain ⟨hg3, hg4⟩ := hgk
      have heq : ∀ a : Addr, a.block < w.heap.size → a.block ≠ eB → wr.cell? a = w.cell? a := fun a h1 h2 => World.cell?_of_block (w := w) (M.fr.block a.block h1 (fun _ => h2))
      have HM := hidden M
      have HEQ := hidden heq
      clear M heq
      go_upto_if 172 with fail
      go_cut [48] from 164 to 263 (fun gv wx => gv = .int .i64 g ∧ wx = wr)
      case first =>
        by_cases hgn : k < gn
        · obtain ⟨ad, rfl, a1, a2, a3⟩ := hgs (by omega)
          have c1 : wr.cell? (ad.add k) = some (.int .u8 g) := by
            rw [HEQ.out _ (by rw [add_block]; exact a1) (by rw [add_block]; exact a2), a3 k hgn]
            show some (Value.int .u8 (gs.getD k 0)) = _
            rw [HG.out]
          go_wp2
          go_meet
          case rel => exact ⟨rfl, rfl⟩
        · have hg5 : g = 0 := by
            rw [← HG.out]
            simp [List.getD, List.getElem?_eq_none (show gs.length ≤ k by omega)]
          subst hg5
          go_wp2
          go_meet
          case rel => exact ⟨rfl, rfl⟩
      case rest =>
        obtain ⟨rfl, hwc⟩ := hcut
        have hwc' := hwc.symm
        subst hwc'
        go_upto_region 47 with fail
        obtain ⟨W1, hW1⟩ : ∃ W1, W1 = wr.alloc (.cells #[.int .i64 0, .int .i64 0, .int .i64 (r + (1 + g)), .int .i64 sz, .int .i64 0, .int .i64 1, .int .i64 0, .bool false, .bool false, .int .i64 0, .int .i64 0, .int .i64 0, .int .i64 0, .pointer none, .int .i64 0, .int .i64 0, .int .i64 0, .slice none 0 0, .slice none 0 0, .slice none 0 0, .slice none 0 0, .pointer none, .pointer none, .int .u64 0, .int .u8 0, .int .u8 0, .int .u8 0, .int .u8 0, .int .u8 0, .int .u8 0, .int .u8 0, .int .u8 0] 53) := ⟨_, rfl⟩
        rw [← hW1]
        have HW1 := hidden hW1
        obtain ⟨z1, b1, n1, c1, f1⟩ := chain_new (r := r + (1 + g)) (sz := sz) hW1
        clear hW1
        have HC := hidden c1
        have HF := hidden f1
        have HB1 := hidden b1
        clear c1 f1 n1 b1
        obtain ⟨two, htwo⟩ : ∃ t, cs.getD k false = t := ⟨_, rfl⟩
        have HT := hidden htwo
        clear htwo
        go_cut [195] from 164 to 263 (fun c wx => c = .bool two ∧ wx = W1)
        case first =>
          by_cases hcn : k < cn
          · obtain ⟨ad, rfl, a1, a2, a3⟩ := hcs (by omega)
            have c1 : W1.cell? (ad.add k) = some (.bool two) := by
              have h3 := HM.out.fr.size
              rw [HB1.out.cell (by rw [add_block]; omega), HEQ.out _ (by rw [add_block]; exact a1) (by rw [add_block]; exact a2), a3 k hcn, ← HT.out]
            go_wp2
            go_meet
            case rel => exact ⟨rfl, rfl⟩
          · have hg5 : two = false := by
              rw [← HT.out]
              simp [List.getD, List.getElem?_eq_none (show cs.length ≤ k by omega)]
            subst hg5
            go_wp2
            go_meet
            case rel => exact ⟨rfl, rfl⟩
        case rest =>
          obtain ⟨rfl, hwc⟩ := hcut
          have hwc' := hwc.symm
          subst hwc'
          obtain ⟨nb, hnb⟩ : ∃ b, b = wr.heap.size := ⟨_, rfl⟩
          rw [← hnb] at HC HF
          rw [← hnb]
          obtain ⟨x, hx⟩ : ∃ x, ls.getD k 0 = x := ⟨_, rfl⟩
          have HX := hidden hx
          clear hx
          obtain ⟨ad, e, a1, a2, a3⟩ := hls (by omega)
          injection e with e
          subst e
          have hl0 : wr.cell? (lad.add k) = some (.int .i64 x) := by
            rw [HEQ.out _ (by rw [add_block]; exact a1) (by rw [add_block]; exact a2), a3 k hlt]
            show some (Value.int .i64 (ls.getD k 0)) = _
            rw [HX.out]
          have la3 : lad.block < wr.heap.size := by have := HM.out.fr.size; omega
          have HL : Hid (∀ W, RowKit.Below wr.heap.size wr W → W.cell? (lad.add k) = some (.int .i64 x)) := fun W h => (h.cell (by rw [add_block]; exact la3)).trans hl0
          have hl1 := HL.out _ HB1.out
          clear a3 hl0
          have HLA := hidden (And.intro a1 (And.intro a2 la3))
          clear a1 a2 la3
          have HN := hidden (And.intro hnb z1)
          clear hnb z1
          cases two with
          | true =>
            obtain ⟨sa1, sc1, sv1⟩ := own_slice (HM.out.two true).rv_
            rw [sv1]
            have HSV := hidden sv1
            clear sv1
            have hqn := idx_len cs true k
            have c5 : W1.cell? ⟨nb, 5, none⟩ = some (.int .i64 1) := HC.out 5
            have f5 : W1.frozen? ⟨nb, 5, none⟩ = false := HF.out 5
            have c19 : ∀ v o1 o2 o3, ((((W1.setCell ⟨nb, 5, none⟩ v).alloc o1).alloc o2).alloc o3).cell? ⟨nb, 19, none⟩ = some (.slice none 0 0) := fun v o1 o2 o3 =>
              ((((FrO.setCell W1 nb 5 v).then (below_alloc _ _)).then (below_alloc _ _)).then (below_alloc _ _)).some (HC.out 19) (by omega)
            have f19 : ∀ v o1 o2 o3, ((((W1.setCell ⟨nb, 5, none⟩ v).alloc o1).alloc o2).alloc o3).frozen? ⟨nb, 19, none⟩ = false := fun v o1 o2 o3 =>
              (((((FrO.setCell W1 nb 5 v).then (below_alloc _ _)).then (below_alloc _ _)).then (below_alloc _ _)).frozen nb 19 (by have := HN.out; omega)).trans (HF.out 19)
            have hl2 : ∀ v o, ((W1.setCell ⟨nb, 5, none⟩ v).alloc o).cell? (lad.add k) = some (.int .i64 x) := fun v o =>
              HL.out _ ((HB1.out.setCell (p := ⟨nb, 5, none⟩) (by show _ ≤ nb; have := HN.out; omega) v).alloc (by rw [World.size_setCell]; have := HN.out; omega) o)
            by_cases hkp : k = p
            · subst hkp
              go_upto_region 52 with fail
              obtain ⟨W5, hW5⟩ : ∃ W5, W5 = ((((W1.setCell ⟨nb, 5, none⟩ (.int .i64 2)).alloc (.cells #[.int .i64 0, .int .i64 0, .int .i64 0, .int .i64 0, .int .i64 0, .int .i64 0, .int .i64 0, .int .u8 0, .int .i32 0, .int .i64 0, .pointer none, .int .i64 0, .int .i64 0] 59)).alloc (.cells #[.int .i64 0, .int .i64 0, .int .i64 0, .int .i64 0, .int .i64 0, .int .i64 0, .int .i64 0, .int .u8 0, .int .i32 0, .int .i64 0, .pointer none, .int .i64 x, .int .i64 0] 59)).alloc (.cells #[.pointer (some ⟨W1.heap.size, 0, none⟩), .pointer (some ⟨W1.heap.size + 1, 0, none⟩)] 54)).setCell ⟨nb, 19, none⟩ (.slice (some ⟨W1.heap.size + 1 + 1, 0, none⟩) 2 2) := ⟨_, rfl⟩
              rw [← hW5]
              have hW5' := hW5
              rw [HN.out.1, HN.out.2] at hW5'
              obtain ⟨b5, z5, ob5, pk5⟩ := chain_two HW1.out rfl hW5'
              have HW5 := hidden (And.intro b5 (And.intro z5 (And.intro ob5 pk5)))
              clear b5 z5 ob5 pk5 hW5 hW5' c19 f19 c5 f5 hl2 hl1
              obtain ⟨i2, hi2, hz2, hs2, hy2⟩ := info_parts Yba.info2
              have HO1 : Hid (∀ o, (W5.alloc o).ownsRow w.heap.size 2 1 (kv true) (idx cs true k).length (ints (keysOf gs cs true k))) := fun o =>
                own_kept (HM.out.two true).rk_ (fun b hb => by
                  have h1 := (own_lt (HM.out.two true).rk_ hb).2
                  have h2 := HW5.out.2.1
                  exact ((below_alloc W5 o).block b (by omega)).trans (HW5.out.1.block b h1))
              have HS0 : Hid (∀ o, w.heap.size ≤ (W5.alloc o).heap.size) := fun o => by
                have h1 := HM.out.fr.size
                have h2 := HW5.out.2.1
                rw [size_alloc']
                omega
              go_upto_region 53 with (at_builtin; refine wpList_append_own_at _ rfl (.tmp 216) (.tmp 218) 22 rfl w.heap.size 2 i2 (.int .i64 0) 1 8 Yba.underlying22 hi2 hz2 hs2 hy2 rfl (by decide) (kv true) (idx cs true k).length _ rfl (HO1.out _) ⟨W5.heap.size, 0, none⟩ 1 1 [.int .i64 (r + (1 + g))] rfl rfl (new_one _ _ _) (by simp [Value.oneCell']) (by unfold maxLen; omega) (by omega) (HS0.out _) ?_; intro kv1 We hE gE nE bE)
              clear nE hi2 hz2 hs2 hy2
              obtain ⟨i4, hi4, hz4, hs4, hy4⟩ := info_parts Yba.info40
              have HE := hidden (And.intro hE (And.intro gE bE))
              clear hE gE bE
              have sE : Hid (wr.heap.size < We.heap.size) := by
                have h2 := HW5.out.2.1
                have h3 := HE.out.2.1.size
                rw [size_alloc'] at h3
                show wr.heap.size < We.heap.size
                omega
              have KE : Hid (∀ b, b < wr.heap.size → (kv true).ownBlock ≠ some b → We.heap[b]? = wr.heap[b]?) := fun b h1 h2 => by
                have h3 := HW5.out.2.1
                exact ((HE.out.2.1.block b (by rw [size_alloc']; omega) (fun e => h2 e.symm)).trans ((below_alloc W5 _).block b (by omega))).trans (HW5.out.1.block b h1)
              have HO2 : Hid (∀ o, (We.alloc o).ownsRow w.heap.size 40 1 (.slice sa1 (idx cs true k).length sc1) (idx cs true k).length (ptrs ((blksOf cs true blk k).map some))) := fun o => by
                have h := (HM.out.two true).rv_
                have hd := HM.out.d1 true true
                rw [HSV.out] at h hd
                refine own_kept h (fun b hb => ?_)
                have h1 := (own_lt h hb).2
                have h2 := sE.out
                exact ((below_alloc We o).block b (by omega)).trans (KE.out b h1 (fun e => hd b e hb))
              have HS1 : Hid (∀ o, w.heap.size ≤ (We.alloc o).heap.size) := fun o => by
                have h1 := HM.out.fr.size
                have h2 := sE.out
                rw [size_alloc']
                omega
              go_upto_region 60 with (at_builtin; refine wpList_append_own_at _ rfl (.tmp 220) (.tmp 222) 34 rfl w.heap.size 40 i4 (.pointer none) 1 8 Yba.underlying34 hi4 hz4 hs4 hy4 rfl (by decide) (.slice sa1 (idx cs true k).length sc1) (idx cs true k).length _ rfl (HO2.out _) ⟨We.heap.size, 0, none⟩ 1 1 [.pointer (some ⟨nb, 0, none⟩)] rfl rfl (new_one _ _ _) (by simp [Value.oneCell']) (by unfold maxLen; omega) (by omega) (HS1.out _) ?_; intro vv1 Wg hG gG nG bG)
              clear nG hi4 hz4 hs4 hy4
              have HGG := hidden (And.intro hG (And.intro gG bG))
              clear hG gG bG
              have KG : Hid (∀ b, b < w.heap.size → Wg.heap[b]? = wr.heap[b]?) := fun b h1 => by
                have h2 := sE.out
                have h3 := HM.out.fr.size
                have h4 := (HM.out.two true).rv_
                rw [HSV.out] at h4
                exact ((HGG.out.2.1.block b (by rw [size_alloc']; omega) (fun e => by have := (own_lt h4 e.symm).1; omega)).trans ((below_alloc We _).block b (by omega))).trans (KE.out b (by omega) (fun e => by have := (own_lt (HM.out.two true).rk_ e).1; omega))
              have hlg : Wg.cell? (lad.add k) = some (.int .i64 x) := by
                have h : Wg.cell? (lad.add k) = wr.cell? (lad.add k) := World.cell?_of_block (w := wr) (by rw [add_block]; exact KG.out _ HLA.out.1)
                rw [h]
                exact HL.out wr (RowKit.Below.refl _ _)
              have ceB : ∀ o, Wg.cell? ⟨eB, o, none⟩ = wr.cell? ⟨eB, o, none⟩ := fun o => World.cell?_of_block (w := wr) (KG.out eB heB)
              obtain ⟨y1, cy1⟩ := HM.out.ex (k * 3) (by omega)
              obtain ⟨y2, cy2⟩ := HM.out.ex (k * 3 + 1) (by omega)
              obtain ⟨y3, cy3⟩ := HM.out.ex (k * 3 + 2) (by omega)
              rw [← ceB] at cy1 cy2 cy3
              clear ceB
              have feB : ∀ o, Wg.frozen? ⟨eB, o, none⟩ = false := fun o => (World.frozen?_of_block (w := wr) (KG.out eB heB)).trans ((HM.out.fr.frozen eB o heB).trans (fe o))
              go_wp2
              have hk2 := HRK.out
              have hx2 := HX.out
              obtain ⟨hnb, z1⟩ := HN.out
              obtain ⟨b5, z5, ob5, pk5⟩ := HW5.out
              obtain ⟨hE, gE, bE⟩ := HE.out
              obtain ⟨hG, gG, bG⟩ := HGG.out
              subst hnb
              subst hx2
              rw [← HSV.out] at gG bG
              rw [← hk2] at hE gE bE pk5 ⊢
              have MS := made_step HM.out hlt heB HT.out (b5.alloc (by omega) _) (Nat.le_refl _) (by rw [size_alloc']; omega) (obj_of_heap ob5 ((below_alloc W5 _).block _ (by omega))) (fun _ => pk5.kept (fun b _ h _ => (below_alloc W5 _).block b h) (Nat.le_refl _) (fun b _ _ h => h)) hE gE bE (below_alloc We _) hG gG bG
              rw [if_pos (rfl : k = k), if_pos (rfl : k = k)] at MS
              exact ⟨⟨k + 1, (fun j => if j = k then wr.heap.size else blk j), (fun t => if t = true then kv1 else kv t), (fun t => if t = true then vv1 else vv t), _, by omega, rfl, rfl, rfl, rfl, rfl, rfl, rfl, MS⟩, by simp only [intOf]; omega⟩
            · have hb : ((k : Int) == (p : Int)) = false := by
                rw [beq_eq_false_iff_ne]
                omega
              go_upto_region 52 with fail
              obtain ⟨W5, hW5⟩ : ∃ W5, W5 = ((((W1.setCell ⟨nb, 5, none⟩ (.int .i64 2)).alloc (.cells #[.int .i64 0, .int .i64 0, .int .i64 0, .int .i64 0, .int .i64 0, .int .i64 0, .int .i64 0, .int .u8 0, .int .i32 0, .int .i64 0, .pointer none, .int .i64 0, .int .i64 0] 59)).alloc (.cells #[.int .i64 0, .int .i64 0, .int .i64 0, .int .i64 0, .int .i64 0, .int .i64 0, .int .i64 0, .int .u8 0, .int .i32 0, .int .i64 0, .pointer none, .int .i64 x, .int .i64 0] 59)).alloc (.cells #[.pointer (some ⟨W1.heap.size, 0, none⟩), .pointer (some ⟨W1.heap.size + 1, 0, none⟩)] 54)).setCell ⟨nb, 19, none⟩ (.slice (some ⟨W1.heap.size + 1 + 1, 0, none⟩) 2 2) := ⟨_, rfl⟩
              rw [← hW5]
              have hW5' := hW5
              rw [HN.out.1, HN.out.2] at hW5'
              obtain ⟨b5, z5, ob5, pk5⟩ := chain_two HW1.out rfl hW5'
              have HW5 := hidden (And.intro b5 (And.intro z5 (And.intro ob5 pk5)))
              clear b5 z5 ob5 pk5 hW5 hW5' c19 f19 c5 f5 hl2 hl1
              obtain ⟨i2, hi2, hz2, hs2, hy2⟩ := info_parts Yba.info2
              have HO1 : Hid (∀ o, (W5.alloc o).ownsRow w.heap.size 2 1 (kv true) (idx cs true k).length (ints (keysOf gs cs true k))) := fun o =>
                own_kept (HM.out.two true).rk_ (fun b hb => by
                  have h1 := (own_lt (HM.out.two true).rk_ hb).2
                  have h2 := HW5.out.2.1
                  exact ((below_alloc W5 o).block b (by omega)).trans (HW5.out.1.block b h1))
              have HS0 : Hid (∀ o, w.heap.size ≤ (W5.alloc o).heap.size) := fun o => by
                have h1 := HM.out.fr.size
                have h2 := HW5.out.2.1
                rw [size_alloc']
                omega
              go_upto_region 53 with (at_builtin; refine wpList_append_own_at _ rfl (.tmp 216) (.tmp 218) 22 rfl w.heap.size 2 i2 (.int .i64 0) 1 8 Yba.underlying22 hi2 hz2 hs2 hy2 rfl (by decide) (kv true) (idx cs true k).length _ rfl (HO1.out _) ⟨W5.heap.size, 0, none⟩ 1 1 [.int .i64 (r + (1 + g))] rfl rfl (new_one _ _ _) (by simp [Value.oneCell']) (by unfold maxLen; omega) (by omega) (HS0.out _) ?_; intro kv1 We hE gE nE bE)
              clear nE hi2 hz2 hs2 hy2
              obtain ⟨i4, hi4, hz4, hs4, hy4⟩ := info_parts Yba.info40
              have HE := hidden (And.intro hE (And.intro gE bE))
              clear hE gE bE
              have sE : Hid (wr.heap.size < We.heap.size) := by
                have h2 := HW5.out.2.1
                have h3 := HE.out.2.1.size
                rw [size_alloc'] at h3
                show wr.heap.size < We.heap.size
                omega
              have KE : Hid (∀ b, b < wr.heap.size → (kv true).ownBlock ≠ some b → We.heap[b]? = wr.heap[b]?) := fun b h1 h2 => by
                have h3 := HW5.out.2.1
                exact ((HE.out.2.1.block b (by rw [size_alloc']; omega) (fun e => h2 e.symm)).trans ((below_alloc W5 _).block b (by omega))).trans (HW5.out.1.block b h1)
              have HO2 : Hid (∀ o, (We.alloc o).ownsRow w.heap.size 40 1 (.slice sa1 (idx cs true k).length sc1) (idx cs true k).length (ptrs ((blksOf cs true blk k).map some))) := fun o => by
                have h := (HM.out.two true).rv_
                have hd := HM.out.d1 true true
                rw [HSV.out] at h hd
                refine own_kept h (fun b hb => ?_)
                have h1 := (own_lt h hb).2
                have h2 := sE.out
                exact ((below_alloc We o).block b (by omega)).trans (KE.out b h1 (fun e => hd b e hb))
              have HS1 : Hid (∀ o, w.heap.size ≤ (We.alloc o).heap.size) := fun o => by
                have h1 := HM.out.fr.size
                have h2 := sE.out
                rw [size_alloc']
                omega
              go_upto_region 60 with (at_builtin; refine wpList_append_own_at _ rfl (.tmp 220) (.tmp 222) 34 rfl w.heap.size 40 i4 (.pointer none) 1 8 Yba.underlying34 hi4 hz4 hs4 hy4 rfl (by decide) (.slice sa1 (idx cs true k).length sc1) (idx cs true k).length _ rfl (HO2.out _) ⟨We.heap.size, 0, none⟩ 1 1 [.pointer (some ⟨nb, 0, none⟩)] rfl rfl (new_one _ _ _) (by simp [Value.oneCell']) (by unfold maxLen; omega) (by omega) (HS1.out _) ?_; intro vv1 Wg hG gG nG bG)
              clear nG hi4 hz4 hs4 hy4
              have HGG := hidden (And.intro hG (And.intro gG bG))
              clear hG gG bG
              have KG : Hid (∀ b, b < w.heap.size → Wg.heap[b]? = wr.heap[b]?) := fun b h1 => by
                have h2 := sE.out
                have h3 := HM.out.fr.size
                have h4 := (HM.out.two true).rv_
                rw [HSV.out] at h4
                exact ((HGG.out.2.1.block b (by rw [size_alloc']; omega) (fun e => by have := (own_lt h4 e.symm).1; omega)).trans ((below_alloc We _).block b (by omega))).trans (KE.out b (by omega) (fun e => by have := (own_lt (HM.out.two true).rk_ e).1; omega))
              have hlg : Wg.cell? (lad.add k) = some (.int .i64 x) := by
                have h : Wg.cell? (lad.add k) = wr.cell? (lad.add k) := World.cell?_of_block (w := wr) (by rw [add_block]; exact KG.out _ HLA.out.1)
                rw [h]
                exact HL.out wr (RowKit.Below.refl _ _)
              have ceB : ∀ o, Wg.cell? ⟨eB, o, none⟩ = wr.cell? ⟨eB, o, none⟩ := fun o => World.cell?_of_block (w := wr) (KG.out eB heB)
              obtain ⟨y1, cy1⟩ := HM.out.ex (k * 3) (by omega)
              obtain ⟨y2, cy2⟩ := HM.out.ex (k * 3 + 1) (by omega)
              obtain ⟨y3, cy3⟩ := HM.out.ex (k * 3 + 2) (by omega)
              rw [← ceB] at cy1 cy2 cy3
              clear ceB
              have feB : ∀ o, Wg.frozen? ⟨eB, o, none⟩ = false := fun o => (World.frozen?_of_block (w := wr) (KG.out eB heB)).trans ((HM.out.fr.frozen eB o heB).trans (fe o))
              go_wp2
              have hk2 := HRK.out
              have hx2 := HX.out
              obtain ⟨hnb, z1⟩ := HN.out
              obtain ⟨b5, z5, ob5, pk5⟩ := HW5.out
              obtain ⟨hE, gE, bE⟩ := HE.out
              obtain ⟨hG, gG, bG⟩ := HGG.out
              subst hnb
              subst hx2
              rw [← HSV.out] at gG bG
              rw [← hk2] at hE gE bE pk5 ⊢
              have MS := made_step HM.out hlt heB HT.out (b5.alloc (by omega) _) (Nat.le_refl _) (by rw [size_alloc']; omega) (obj_of_heap ob5 ((below_alloc W5 _).block _ (by omega))) (fun _ => pk5.kept (fun b _ h _ => (below_alloc W5 _).block b h) (Nat.le_refl _) (fun b _ _ h => h)) hE gE bE (below_alloc We _) hG gG bG
              rw [if_neg hkp, if_neg hkp] at MS
              exact ⟨⟨k + 1, (fun j => if j = k then wr.heap.size else blk j), (fun t => if t = true then kv1 else kv t), (fun t => if t = true then vv1 else vv t), _, by omega, rfl, rfl, rfl, rfl, rfl, rfl, rfl, MS⟩, by simp only [intOf]; omega⟩
          | false =>
            obtain ⟨sa1, sc1, sv1⟩ := own_slice (HM.out.two false).rv_
            rw [sv1]
            have HSV := hidden sv1
            clear sv1
            have hqn := idx_len cs false k
            have c0 : W1.cell? ⟨nb, 0, none⟩ = some (.int .i64 0) := HC.out 0
            have f0 : W1.frozen? ⟨nb, 0, none⟩ = false := HF.out 0
            have c19 : ∀ v o1 o2, (((W1.setCell ⟨nb, 0, none⟩ v).alloc o1).alloc o2).cell? ⟨nb, 19, none⟩ = some (.slice none 0 0) := fun v o1 o2 =>
              (((FrO.setCell W1 nb 0 v).then (below_alloc _ _)).then (below_alloc _ _)).some (HC.out 19) (by omega)
            have f19 : ∀ v o1 o2, (((W1.setCell ⟨nb, 0, none⟩ v).alloc o1).alloc o2).frozen? ⟨nb, 19, none⟩ = false := fun v o1 o2 =>
              ((((FrO.setCell W1 nb 0 v).then (below_alloc _ _)).then (below_alloc _ _)).frozen nb 19 (by have := HN.out; omega)).trans (HF.out 19)
            by_cases hkp : k = p
            · subst hkp
              go_upto_region 58 with fail
              obtain ⟨W5, hW5⟩ : ∃ W5, W5 = (((W1.setCell ⟨nb, 0, none⟩ (.int .i64 x)).alloc (.cells #[.int .i64 0, .int .i64 0, .int .i64 0, .int .i64 0, .int .i64 0, .int .i64 0, .int .i64 0, .int .u8 0, .int .i32 0, .int .i64 0, .pointer none, .int .i64 0, .int .i64 0] 59)).alloc (.cells #[.pointer (some ⟨W1.heap.size, 0, none⟩)] 54)).setCell ⟨nb, 19, none⟩ (.slice (some ⟨W1.heap.size + 1, 0, none⟩) 1 1) := ⟨_, rfl⟩
              rw [← hW5]
              have hW5' := hW5
              rw [HN.out.1, HN.out.2] at hW5'
              obtain ⟨b5, z5, ob5, pk5⟩ := chain_one HW1.out hW5'
              have HW5 := hidden (And.intro b5 (And.intro z5 (And.intro ob5 pk5)))
              clear b5 z5 ob5 pk5 hW5 hW5' c19 f19 c0 f0 hl1
              obtain ⟨i2, hi2, hz2, hs2, hy2⟩ := info_parts Yba.info2
              have HO1 : Hid (∀ o, (W5.alloc o).ownsRow w.heap.size 2 1 (kv false) (idx cs false k).length (ints (keysOf gs cs false k))) := fun o =>
                own_kept (HM.out.two false).rk_ (fun b hb => by
                  have h1 := (own_lt (HM.out.two false).rk_ hb).2
                  have h2 := HW5.out.2.1
                  exact ((below_alloc W5 o).block b (by omega)).trans (HW5.out.1.block b h1))
              have HS0 : Hid (∀ o, w.heap.size ≤ (W5.alloc o).heap.size) := fun o => by
                have h1 := HM.out.fr.size
                have h2 := HW5.out.2.1
                rw [size_alloc']
                omega
              go_upto_region 59 with (at_builtin; refine wpList_append_own_at _ rfl (.tmp 242) (.tmp 244) 22 rfl w.heap.size 2 i2 (.int .i64 0) 1 8 Yba.underlying22 hi2 hz2 hs2 hy2 rfl (by decide) (kv false) (idx cs false k).length _ rfl (HO1.out _) ⟨W5.heap.size, 0, none⟩ 1 1 [.int .i64 (r + (1 + g))] rfl rfl (new_one _ _ _) (by simp [Value.oneCell']) (by unfold maxLen; omega) (by omega) (HS0.out _) ?_; intro kv1 We hE gE nE bE)
              clear nE hi2 hz2 hs2 hy2
              obtain ⟨i4, hi4, hz4, hs4, hy4⟩ := info_parts Yba.info40
              have HE := hidden (And.intro hE (And.intro gE bE))
              clear hE gE bE
              have sE : Hid (wr.heap.size < We.heap.size) := by
                have h2 := HW5.out.2.1
                have h3 := HE.out.2.1.size
                rw [size_alloc'] at h3
                show wr.heap.size < We.heap.size
                omega
              have KE : Hid (∀ b, b < wr.heap.size → (kv false).ownBlock ≠ some b → We.heap[b]? = wr.heap[b]?) := fun b h1 h2 => by
                have h3 := HW5.out.2.1
                exact ((HE.out.2.1.block b (by rw [size_alloc']; omega) (fun e => h2 e.symm)).trans ((below_alloc W5 _).block b (by omega))).trans (HW5.out.1.block b h1)
              have HO2 : Hid (∀ o, (We.alloc o).ownsRow w.heap.size 40 1 (.slice sa1 (idx cs false k).length sc1) (idx cs false k).length (ptrs ((blksOf cs false blk k).map some))) := fun o => by
                have h := (HM.out.two false).rv_
                have hd := HM.out.d1 false false
                rw [HSV.out] at h hd
                refine own_kept h (fun b hb => ?_)
                have h1 := (own_lt h hb).2
                have h2 := sE.out
                exact ((below_alloc We o).block b (by omega)).trans (KE.out b h1 (fun e => hd b e hb))
              have HS1 : Hid (∀ o, w.heap.size ≤ (We.alloc o).heap.size) := fun o => by
                have h1 := HM.out.fr.size
                have h2 := sE.out
                rw [size_alloc']
                omega
              go_upto_region 60 with (at_builtin; refine wpList_append_own_at _ rfl (.tmp 246) (.tmp 248) 34 rfl w.heap.size 40 i4 (.pointer none) 1 8 Yba.underlying34 hi4 hz4 hs4 hy4 rfl (by decide) (.slice sa1 (idx cs false k).length sc1) (idx cs false k).length _ rfl (HO2.out _) ⟨We.heap.size, 0, none⟩ 1 1 [.pointer (some ⟨nb, 0, none⟩)] rfl rfl (new_one _ _ _) (by simp [Value.oneCell']) (by unfold maxLen; omega) (by omega) (HS1.out _) ?_; intro vv1 Wg hG gG nG bG)
              clear nG hi4 hz4 hs4 hy4
              have HGG := hidden (And.intro hG (And.intro gG bG))
              clear hG gG bG
              have KG : Hid (∀ b, b < w.heap.size → Wg.heap[b]? = wr.heap[b]?) := fun b h1 => by
                have h2 := sE.out
                have h3 := HM.out.fr.size
                have h4 := (HM.out.two false).rv_
                rw [HSV.out] at h4
                exact ((HGG.out.2.1.block b (by rw [size_alloc']; omega) (fun e => by have := (own_lt h4 e.symm).1; omega)).trans ((below_alloc We _).block b (by omega))).trans (KE.out b (by omega) (fun e => by have := (own_lt (HM.out.two false).rk_ e).1; omega))
              have hlg : Wg.cell? (lad.add k) = some (.int .i64 x) := by
                have h : Wg.cell? (lad.add k) = wr.cell? (lad.add k) := World.cell?_of_block (w := wr) (by rw [add_block]; exact KG.out _ HLA.out.1)
                rw [h]
                exact HL.out wr (RowKit.Below.refl _ _)
              have ceB : ∀ o, Wg.cell? ⟨eB, o, none⟩ = wr.cell? ⟨eB, o, none⟩ := fun o => World.cell?_of_block (w := wr) (KG.out eB heB)
              obtain ⟨y1, cy1⟩ := HM.out.ex (k * 3) (by omega)
              obtain ⟨y2, cy2⟩ := HM.out.ex (k * 3 + 1) (by omega)
              obtain ⟨y3, cy3⟩ := HM.out.ex (k * 3 + 2) (by omega)
              rw [← ceB] at cy1 cy2 cy3
              clear ceB
              have feB : ∀ o, Wg.frozen? ⟨eB, o, none⟩ = false := fun o => (World.frozen?_of_block (w := wr) (KG.out eB heB)).trans ((HM.out.fr.frozen eB o heB).trans (fe o))
              go_wp2
              have hk2 := HRK.out
              have hx2 := HX.out
              obtain ⟨hnb, z1⟩ := HN.out
              obtain ⟨b5, z5, ob5, pk5⟩ := HW5.out
              obtain ⟨hE, gE, bE⟩ := HE.out
              obtain ⟨hG, gG, bG⟩ := HGG.out
              subst hnb
              subst hx2
              rw [← HSV.out] at gG bG
              rw [← hk2] at hE gE bE pk5 ⊢
              have MS := made_step HM.out hlt heB HT.out (b5.alloc (by omega) _) (Nat.le_refl _) (by rw [size_alloc']; omega) (obj_of_heap ob5 ((below_alloc W5 _).block _ (by omega))) (fun _ => pk5.kept (fun b _ h _ => (below_alloc W5 _).block b h) (Nat.le_refl _) (fun b _ _ h => h)) hE gE bE (below_alloc We _) hG gG bG
              rw [if_pos (rfl : k = k), if_pos (rfl : k = k)] at MS
              exact ⟨⟨k + 1, (fun j => if j = k then wr.heap.size else blk j), (fun t => if t = false then kv1 else kv t), (fun t => if t = false then vv1 else vv t), _, by omega, rfl, rfl, rfl, rfl, rfl, rfl, rfl, MS⟩, by simp only [intOf]; omega⟩
            · have hb : ((k : Int) == (p : Int)) = false := by
                rw [beq_eq_false_iff_ne]
                omega
              go_upto_region 58 with fail
              obtain ⟨W5, hW5⟩ : ∃ W5, W5 = (((W1.setCell ⟨nb, 0, none⟩ (.int .i64 x)).alloc (.cells #[.int .i64 0, .int .i64 0, .int .i64 0, .int .i64 0, .int .i64 0, .int .i64 0, .int .i64 0, .int .u8 0, .int .i32 0, .int .i64 0, .pointer none, .int .i64 0, .int .i64 0] 59)).alloc (.cells #[.pointer (some ⟨W1.heap.size, 0, none⟩)] 54)).setCell ⟨nb, 19, none⟩ (.slice (some ⟨W1.heap.size + 1, 0, none⟩) 1 1) := ⟨_, rfl⟩
              rw [← hW5]
              have hW5' := hW5
              rw [HN.out.1, HN.out.2] at hW5'
              obtain ⟨b5, z5, ob5, pk5⟩ := chain_one HW1.out hW5'
              have HW5 := hidden (And.intro b5 (And.intro z5 (And.intro ob5 pk5)))
              clear b5 z5 ob5 pk5 hW5 hW5' c19 f19 c0 f0 hl1
              obtain ⟨i2, hi2, hz2, hs2, hy2⟩ := info_parts Yba.info2
              have HO1 : Hid (∀ o, (W5.alloc o).ownsRow w.heap.size 2 1 (kv false) (idx cs false k).length (ints (keysOf gs cs false k))) := fun o =>
                own_kept (HM.out.two false).rk_ (fun b hb => by
                  have h1 := (own_lt (HM.out.two false).rk_ hb).2
                  have h2 := HW5.out.2.1
                  exact ((below_alloc W5 o).block b (by omega)).trans (HW5.out.1.block b h1))
              have HS0 : Hid (∀ o, w.heap.size ≤ (W5.alloc o).heap.size) := fun o => by
                have h1 := HM.out.fr.size
                have h2 := HW5.out.2.1
                rw [size_alloc']
                omega
              go_upto_region 59 with (at_builtin; refine wpList_append_own_at _ rfl (.tmp 242) (.tmp 244) 22 rfl w.heap.size 2 i2 (.int .i64 0) 1 8 Yba.underlying22 hi2 hz2 hs2 hy2 rfl (by decide) (kv false) (idx cs false k).length _ rfl (HO1.out _) ⟨W5.heap.size, 0, none⟩ 1 1 [.int .i64 (r + (1 + g))] rfl rfl (new_one _ _ _) (by simp [Value.oneCell']) (by unfold maxLen; omega) (by omega) (HS0.out _) ?_; intro kv1 We hE gE nE bE)
              clear nE hi2 hz2 hs2 hy2
              obtain ⟨i4, hi4, hz4, hs4, hy4⟩ := info_parts Yba.info40
              have HE := hidden (And.intro hE (And.intro gE bE))
              clear hE gE bE
              have sE : Hid (wr.heap.size < We.heap.size) := by
                have h2 := HW5.out.2.1
                have h3 := HE.out.2.1.size
                rw [size_alloc'] at h3
                show wr.heap.size < We.heap.size
                omega
              have KE : Hid (∀ b, b < wr.heap.size → (kv false).ownBlock ≠ some b → We.heap[b]? = wr.heap[b]?) := fun b h1 h2 => by
                have h3 := HW5.out.2.1
                exact ((HE.out.2.1.block b (by rw [size_alloc']; omega) (fun e => h2 e.symm)).trans ((below_alloc W5 _).block b (by omega))).trans (HW5.out.1.block b h1)
              have HO2 : Hid (∀ o, (We.alloc o).ownsRow w.heap.size 40 1 (.slice sa1 (idx cs false k).length sc1) (idx cs false k).length (ptrs ((blksOf cs false blk k).map some))) := fun o => by
                have h := (HM.out.two false).rv_
                have hd := HM.out.d1 false false
                rw [HSV.out] at h hd
                refine own_kept h (fun b hb => ?_)
                have h1 := (own_lt h hb).2
                have h2 := sE.out
                exact ((below_alloc We o).block b (by omega)).trans (KE.out b h1 (fun e => hd b e hb))
              have HS1 : Hid (∀ o, w.heap.size ≤ (We.alloc o).heap.size) := fun o => by
                have h1 := HM.out.fr.size
                have h2 := sE.out
                rw [size_alloc']
                omega
              go_upto_region 60 with (at_builtin; refine wpList_append_own_at _ rfl (.tmp 246) (.tmp 248) 34 rfl w.heap.size 40 i4 (.pointer none) 1 8 Yba.underlying34 hi4 hz4 hs4 hy4 rfl (by decide) (.slice sa1 (idx cs false k).length sc1) (idx cs false k).length _ rfl (HO2.out _) ⟨We.heap.size, 0, none⟩ 1 1 [.pointer (some ⟨nb, 0, none⟩)] rfl rfl (new_one _ _ _) (by simp [Value.oneCell']) (by unfold maxLen; omega) (by omega) (HS1.out _) ?_; intro vv1 Wg hG gG nG bG)
              clear nG hi4 hz4 hs4 hy4
              have HGG := hidden (And.intro hG (And.intro gG bG))
              clear hG gG bG
              have KG : Hid (∀ b, b < w.heap.size → Wg.heap[b]? = wr.heap[b]?) := fun b h1 => by
                have h2 := sE.out
                have h3 := HM.out.fr.size
                have h4 := (HM.out.two false).rv_
                rw [HSV.out] at h4
                exact ((HGG.out.2.1.block b (by rw [size_alloc']; omega) (fun e => by have := (own_lt h4 e.symm).1; omega)).trans ((below_alloc We _).block b (by omega))).trans (KE.out b (by omega) (fun e => by have := (own_lt (HM.out.two false).rk_ e).1; omega))
              have hlg : Wg.cell? (lad.add k) = some (.int .i64 x) := by
                have h : Wg.cell? (lad.add k) = wr.cell? (lad.add k) := World.cell?_of_block (w := wr) (by rw [add_block]; exact KG.out _ HLA.out.1)
                rw [h]
                exact HL.out wr (RowKit.Below.refl _ _)
              have ceB : ∀ o, Wg.cell? ⟨eB, o, none⟩ = wr.cell? ⟨eB, o, none⟩ := fun o => World.cell?_of_block (w := wr) (KG.out eB heB)
              obtain ⟨y1, cy1⟩ := HM.out.ex (k * 3) (by omega)
              obtain ⟨y2, cy2⟩ := HM.out.ex (k * 3 + 1) (by omega)
              obtain ⟨y3, cy3⟩ := HM.out.ex (k * 3 + 2) (by omega)
              rw [← ceB] at cy1 cy2 cy3
              clear ceB
              have feB : ∀ o, Wg.frozen? ⟨eB, o, none⟩ = false := fun o => (World.frozen?_of_block (w := wr) (KG.out eB heB)).trans ((HM.out.fr.frozen eB o heB).trans (fe o))
              go_wp2
              have hk2 := HRK.out
              have hx2 := HX.out
              obtain ⟨hnb, z1⟩ := HN.out
              obtain ⟨b5, z5, ob5, pk5⟩ := HW5.out
              obtain ⟨hE, gE, bE⟩ := HE.out
              obtain ⟨hG, gG, bG⟩ := HGG.out
              subst hnb
              subst hx2
              rw [← HSV.out] at gG bG
              rw [← hk2] at hE gE bE pk5 ⊢
              have MS := made_step HM.out hlt heB HT.out (b5.alloc (by omega) _) (Nat.le_refl _) (by rw [size_alloc']; omega) (obj_of_heap ob5 ((below_alloc W5 _).block _ (by omega))) (fun _ => pk5.kept (fun b _ h _ => (below_alloc W5 _).block b h) (Nat.le_refl _) (fun b _ _ h => h)) hE gE bE (below_alloc We _) hG gG bG
              rw [if_neg hkp, if_neg hkp] at MS
              exact ⟨⟨k + 1, (fun j => if j = k then wr.heap.size else blk j), (fun t => if t = false then kv1 else kv t), (fun t => if t = false then vv1 else vv t), _, by omega, rfl, rfl, rfl, rfl, rfl, rfl, rfl, MS⟩, by simp only [intOf]; omega⟩
    · have hkm : k = m := by omega
      subst hkm
      obtain ⟨ec, eq, PK⟩ := M.after hp
      subst ec
      subst eq
      go_wp2_with fail
      refine hK'.out _ _ ?_
      clear hK'
      have hBT : Below B w0 wr := hB.trans (M.fr.below A.Bs (fun b o h => h ▸ Be))
      cases ht : cs.getD p false with
      | false =>
        obtain ⟨qkB, qvB, okB, ovB, qkc, qvc, on, oc, oa, e1, e2, e3, HS⟩ := site_of A M hp (by omega) ht hg0 (hr p).1 (hr p).2 heB fe Be ne
        rw [show (!false) = true from rfl] at e3 HS
        rw [e1, e2, e3]
        rw [e3] at HS
        exact t1_false B z _ sh eB _ _ _ sz len hint useHint _ _ _ _ _ _ _ _ _ _ _ _ _ _ _ _ _ _ _ _ _ _ oa on oc _ _ _ _ _ _ _ _ _ _ _ _ _ _ _ w0 _ HS (Nat.le_refl _) hBT hh1 hh2 _ _ _ _ _ _ _ _ _ _ _ _ _ _ _ _ _ _ _ _ _ _ _ _ _ _ _ _ _ _ _ _ _ _ _ _ _ _ _ _ _ _ _ _ _ _ _ _ _ _ _ _ _ _ _ _ _ _ _ _ _ _ _ _ _ _ _ _ _ _ _ _ _ _ _ _ _ _ _ _ _ _ _ _ _ _ _ _ _ _ _ _ _ _ _ _ _ _ _ _ _ _ _ _ _ _ _ _ _ _ _ _ _ _ _ _ _ _ _ _ _ _ _ _ _ _ _ _ _ _ _ _ _ _ _ _ _ _ _ _ _ _ _ _ _ _ _ _ _ _ _ _ _ _ _ _ _ _ _ _ _ _ _ _ _ _ _ _ _ _ _ _ _ _ _ _ _ _ _ _ _ _ _ _ _ _ _ _ _ _ _ _ _ _ _ _ _ _ _ _ _ _ _ _ _ _ _ _ _ _ _ _ _ _ _ _ _ _ _ _ _ _ _ _ _ _ _ _ _ _ _ _ _ _ _ _ _ _ _ _ _ _ _ _ _ _ _ _ _ _ _ _ _ _ _ _ _ _ _ _ _ _ _ _ _ _ _ _ _ _ _ _ _ _ _ _ _ _ _ _ _ _ _ _ _ _ _ _ _ _ _ _ _ _ _ _ _ _ _ _ _ _ _ _ _ _ _ _ _ _ _ _ _ _ _ _ _ _ _ _ _ _ _ _ _ _ _ _ _ _ _ _ _ _ _ _ _ _ _ _ _ _ _ _ _ _ _ _ _ _ _ _ _ _ _ _ _ _ _ _ _ _ _ _ _ _ _ _ _ _ _ _ _ _ _ _ _ _ _ _ _ _ _ _ _ _ _ _ _ _ _ _ _ _ _ _ _ _ _ _ _ _ _ _ _ _ _ _ _ _ _ _ _ _ _ _ _ _ _ _ _ _ _ _ _ _ _ _ _ _ _ _ _ _ _ _ _ _ _ _ _ _ _ _ _ _ _ _ _ _ _ _ _ _ _ _ _ _ _ _ _ _ _ _ _ _ _ _ _ _ _ _ _ _ _ _ _ _ _ _ _ _ _ _ _ _ _ _ _ _ _ _ _ _ _ _ _ _ _ _ _ _ _ _ _ _ _ _ _ _ _ _ _ _ _ _ _ _ _ _ _ _ _ _ _ _ _ _ _ _ _ _ _ _ _ _ _ _ _ _ _ _ _ _ _ _ _ _ _ _ _ _ _ _ _ _ _ _ _ _ _ _ _ _ _
      | true =>
        obtain ⟨qkB, qvB, okB, ovB, qkc, qvc, on, oc, oa, e1, e2, e3, HS⟩ := site_of A M hp (by omega) ht hg0 (hr p).1 (hr p).2 heB fe Be ne
        rw [show (!true) = false from rfl] at e3 HS
        rw [e1, e2, e3]
        rw [e3] at HS
        exact t1_true B z _ sh eB _ _ _ sz len hint useHint _ _ _ _ _ _ _ _ _ _ _ _ _ _ _ _ _ _ _ _ _ _ oa on oc _ _ _ _ _ _ _ _ _ _ _ _ _ _ _ w0 _ HS (Nat.le_refl _) hBT hh1 hh2 _ _ _ _ _ _ _ _ _ _ _ _ _ _ _ _ _ _ _ _ _ _ _ _ _ _ _ _ _ _ _ _ _ _ _ _ _ _ _ _ _ _ _ _ _ _ _ _ _ _ _ _ _ _ _ _ _ _ _ _ _ _ _ _ _ _ _ _ _ _ _ _ _ _ _ _ _ _ _ _ _ _ _ _ _ _ _ _ _ _ _ _ _ _ _ _ _ _ _ _ _ _ _ _ _ _ _ _ _ _ _ _ _ _ _ _ _ _ _ _ _ _ _ _ _ _ _ _ _ _ _ _ _ _ _ _ _ _ _ _ _ _ _ _ _ _ _ _ _ _ _ _ _ _ _ _ _ _ _ _ _ _ _ _ _ _ _ _ _ _ _ _ _ _ _ _ _ _ _ _ _ _ _ _ _ _ _ _ _ _ _ _ _ _ _ _ _ _ _ _ _ _ _ _ _ _ _ _ _ _ _ _ _ _ _ _ _ _ _ _ _ _ _ _ _ _ _ _ _ _ _ _ _ _ _ _ _ _ _ _ _ _ _ _ _ _ _ _ _ _ _ _ _ _ _ _ _ _ _ _ _ _ _ _ _ _ _ _ _ _ _ _ _ _ _ _ _ _ _ _ _ _ _ _ _ _ _ _ _ _ _ _ _ _ _ _ _ _ _ _ _ _ _ _ _ _ _ _ _ _ _ _ _ _ _ _ _ _ _ _ _ _ _ _ _ _ _ _ _ _ _ _ _ _ _ _ _ _ _ _ _ _ _ _ _ _ _ _ _ _ _ _ _ _ _ _ _ _ _ _ _ _ _ _ _ _ _ _ _ _ _ _ _ _ _ _ _ _ _ _ _ _ _ _ _ _ _ _ _ _ _ _ _ _ _ _ _ _ _ _ _ _ _ _ _ _ _ _ _ _ _ _ _ _ _ _ _ _ _ _ _ _ _ _ _ _ _ _ _ _ _ _ _ _ _ _ _ _ _ _ _ _ _ _ _ _ _ _ _ _ _ _ _ _ _ _ _ _ _ _ _ _ _ _ _ _ _ _ _ _ _ _ _ _ _ _ _ _ _ _ _ _ _ _ _ _ _ _ _ _ _ _ _ _ _ _ _ _ _ _ _ _ _ _ _ _ _ _ _ _ _ _ _ _ _ _ _ _ _ _ _ _ _ _ _ _ _ _ _ _ _ _ _ _ _ _ _ _ _ _ _ _ _ _ _ _ _ _ _ _ _ _ _ _ _ _ _ _ _ _ _ _ _ _ _
end Go.Proofs.Ybulkexnkw
