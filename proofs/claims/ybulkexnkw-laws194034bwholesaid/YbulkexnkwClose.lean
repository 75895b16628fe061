/-
  What the stretch of the lists leaves behind.
-/
import Derived.Test.YbulkexnkwBox
namespace Go.Proofs.Ybulkexnkw
open Go.RowKit
set_option linter.unusedVariables false

theorem back_put {a b p w' : World} {z sh k ob oo : Nat} {kv vv tv : Value} (f : FrO a b (fun _ _ => False)) (P : Put b p ob oo kv vv tv) (E : FrO p w' (SL z sh (k + 1))) (hs : ∀ b' o, (b' = ob ∧ oo ≤ o ∧ o ≤ oo + 3) → SL z sh k b' o) : FrO a w' (SL z sh k) :=
  ((f.trans P.fr).trans E).mono (fun b' o h => by
    rcases h with (h | h) | h
    · exact h.elim
    · exact hs b' o h
    · unfold SL at *; omega)

set_option maxHeartbeats 1600000 in
theorem close_false {B z ch sh : Nat} {x r sz len : Int} {bkB btB bvB qkB qvB lkB ltB lvB zkB ztB zvB okB ovB bkc btc bvc qkc qvc lkc ltc lvc zkc ztc zvc m qn ns nz : Nat} {oa : Option Addr} {on oc : Nat} {oVV : Value}
    {bk bt qk ok lk lt zk zt : List Int} {bps qps lps zps : List Nat} {ops : List (Option Nat)} {cL cQ sa za : Nat} {w wB w1 w2 w3 w4 w5 w6 w7 w8 w9 w10 w11 w12 w13 w14 w15 p1 p2 p3 p4 wT : World} {b1 c1 b2 c2 b3 c3 b4 c4 b5 c5 b6 c6 b7 c7 b8 c8 b9 c9 b10 c10 b11 c11 b12 c12 b13 c13 b14 c14 b15 c15 : Nat} {a1 a2 a3 a4 a5 a6 a7 a8 a9 a10 a11 a12 a13 a14 a15 : Option Addr}
    (H : Sit w B z ch sh false x r sz len bkB btB bvB qkB qvB lkB ltB lvB zkB ztB zvB okB ovB bkc btc bvc qkc qvc lkc ltc lvc zkc ztc zvc m qn ns nz (.slice oa on oc) oVV bk bt qk ok lk lt zk zt bps qps lps zps ops cL cQ sa za) (hNB : wB.heap.size = w.heap.size + 2) (hA : FrO w wB (fun _ _ => False)) (lon : ok.length = on)
    (o1 : Own w1 b1 (.slice a1 (ints bk).length c1) (ints bk)) (h1 : Below wB.heap.size wB w1) (f1 : wB.heap.size ≤ b1 ∨ (b1 = w.heap.size ∧ ints bk = []))
    (o2 : Own w2 b2 (.slice a2 (ptrs (bps.map some)).length c2) (ptrs (bps.map some))) (h2 : Below w1.heap.size w1 w2) (f2 : w1.heap.size ≤ b2 ∨ (b2 = w.heap.size ∧ ptrs (bps.map some) = []))
    (o3 : Own w3 b3 (.slice a3 (ints bt).length c3) (ints bt)) (h3 : Below w2.heap.size w2 w3) (f3 : w2.heap.size ≤ b3 ∨ (b3 = w.heap.size ∧ ints bt = []))
    (P1 : Put w3 p1 sh 2 (.slice a1 (ints bk).length c1) (.slice a2 (ptrs (bps.map some)).length c2) (.slice a3 (ints bt).length c3))
    (o4 : Own w4 b4 (.slice a4 (ints qk).length c4) (ints qk)) (h4 : Below p1.heap.size p1 w4) (f4 : p1.heap.size ≤ b4 ∨ (b4 = w.heap.size ∧ ints qk = []))
    (o5 : Own w5 b5 (.slice a5 (ptrs (qps.map some)).length c5) (ptrs (qps.map some))) (h5 : Below w4.heap.size w4 w5) (f5 : w4.heap.size ≤ b5 ∨ (b5 = w.heap.size ∧ ptrs (qps.map some) = []))
    (o6 : Own w6 b6 (.slice a6 (ints (List.replicate qn 0)).length c6) (ints (List.replicate qn 0))) (h6 : Below w5.heap.size w5 w6) (f6 : w5.heap.size ≤ b6 ∨ (b6 = w.heap.size ∧ ints (List.replicate qn 0) = []))
    (P2 : Put w6 p2 sh 6 (.slice a4 (ints qk).length c4) (.slice a5 (ptrs (qps.map some)).length c5) (.slice a6 (ints (List.replicate qn 0)).length c6))
    (o7 : Own w7 b7 (.slice a7 (ints ok).length c7) (ints ok)) (h7 : Below p2.heap.size p2 w7) (f7 : p2.heap.size ≤ b7 ∨ (b7 = w.heap.size ∧ ints ok = []))
    (o8 : Own w8 b8 (.slice a8 (ptrs ops).length c8) (ptrs ops)) (h8 : Below w7.heap.size w7 w8) (f8 : w7.heap.size ≤ b8 ∨ (b8 = w.heap.size ∧ ptrs ops = []))
    (o9 : Own w9 b9 (.slice a9 (ints (List.replicate on 0)).length c9) (ints (List.replicate on 0))) (h9 : Below w8.heap.size w8 w9) (f9 : w8.heap.size ≤ b9 ∨ (b9 = w.heap.size ∧ ints (List.replicate on 0) = []))
    (P3 : Put w9 p3 sh 10 (.slice a7 (ints ok).length c7) (.slice a8 (ptrs ops).length c8) (.slice a9 (ints (List.replicate on 0)).length c9))
    (o10 : Own w10 b10 (.slice a10 (ints lk).length c10) (ints lk)) (h10 : Below p3.heap.size p3 w10) (f10 : p3.heap.size ≤ b10 ∨ (b10 = w.heap.size ∧ ints lk = []))
    (o11 : Own w11 b11 (.slice a11 (ptrs (lps.map some)).length c11) (ptrs (lps.map some))) (h11 : Below w10.heap.size w10 w11) (f11 : w10.heap.size ≤ b11 ∨ (b11 = w.heap.size ∧ ptrs (lps.map some) = []))
    (o12 : Own w12 b12 (.slice a12 (ints lt).length c12) (ints lt)) (h12 : Below w11.heap.size w11 w12) (f12 : w11.heap.size ≤ b12 ∨ (b12 = w.heap.size ∧ ints lt = []))
    (P4 : Put w12 p4 z 2 (.slice a10 (ints lk).length c10) (.slice a11 (ptrs (lps.map some)).length c11) (.slice a12 (ints lt).length c12))
    (o13 : Own w13 b13 (.slice a13 (ints zk).length c13) (ints zk)) (h13 : Below p4.heap.size p4 w13) (f13 : p4.heap.size ≤ b13 ∨ (b13 = w.heap.size ∧ ints zk = []))
    (o14 : Own w14 b14 (.slice a14 (ptrs (zps.map some)).length c14) (ptrs (zps.map some))) (h14 : Below w13.heap.size w13 w14) (f14 : w13.heap.size ≤ b14 ∨ (b14 = w.heap.size ∧ ptrs (zps.map some) = []))
    (o15 : Own w15 b15 (.slice a15 (ints zt).length c15) (ints zt)) (h15 : Below w14.heap.size w14 w15) (f15 : w14.heap.size ≤ b15 ∨ (b15 = w.heap.size ∧ ints zt = []))
    (hT : wT = (((w15.alloc (.cells #[.int .i32 1, .int .i32 2, .int .i32 3] 21)).alloc (.cells #[.int .u64 1] 48)).alloc (.cells #[.slice (some ⟨w15.heap.size + 1, 0, none⟩) 1 1] 73)).alloc (.cells #[.slice none 0 0, .slice none 0 0, .int .i64 0, .pointer none, .int .u64 0, .int .u64 0, .int .i64 0, .slice a13 (ints zk).length c13, .slice a14 (ptrs (zps.map some)).length c14, .slice a15 (ints zt).length c15, .int .i64 0, .slice (some ⟨w15.heap.size, 0, none⟩) 3 3, .slice (some ⟨w15.heap.size + 1 + 1, 0, none⟩) 1 1, .int .u64 0] 79)) :
    PreT wT B (w15.heap.size + 1 + 1 + 1) z ch sh b1 b2 b3 b4 b5 b6 b10 b11 b12 b13 b14 b15 b7 b8 b9 false x r sz len bk bt qk (List.replicate qn 0) ok (List.replicate on 0) lk lt zk zt bps qps lps zps ops cL cQ sa za 3 (some ⟨w15.heap.size, 0, none⟩) ∧ FrO wB wT (SL z sh 1) ∧ (wB.heap.size ≤ b2 ∧ wB.heap.size ≤ b5 ∧ wB.heap.size ≤ b11 ∧ wB.heap.size ≤ b14 ∧ wB.heap.size ≤ w15.heap.size) := by
  obtain ⟨lbk, lbt, lbp, hm0, hm5⟩ := H.lm
  obtain ⟨lqk, lqp, hq0, hq5⟩ := H.lq
  obtain ⟨llk, llt, llp, hs0, hs5⟩ := H.ls
  obtain ⟨lzk, lzt, lzp, hz0, hz5⟩ := H.lz
  obtain ⟨lok, lop⟩ := H.lo
  have zlt : z < w.heap.size := lt_of_cell H.z1
  have slt : sh < w.heap.size := lt_of_cell H.sh0
  have clt : ch < w.heap.size := lt_of_cell H.rank
  have n1 := H.n1
  have n2 := H.n2
  have n3 := H.n3
  have Bz := H.Bz
  have Bsh := H.Bsh
  have Bch := H.Bch
  have Bs := H.Bs
  obtain ⟨hbT, hsT, cT, fT⟩ := box_of w15 _ _ _ _ wT hT
  clear hT
  have z1 := h1.size
  have z2 := h2.size
  have z3 := h3.size
  have y1 := P1.fr.size
  have z4 := h4.size
  have z5 := h5.size
  have z6 := h6.size
  have y2 := P2.fr.size
  have z7 := h7.size
  have z8 := h8.size
  have z9 := h9.size
  have y3 := P3.fr.size
  have z10 := h10.size
  have z11 := h11.size
  have z12 := h12.size
  have y4 := P4.fr.size
  have z13 := h13.size
  have z14 := h14.size
  have z15 := h15.size
  have E4 : FrO p4 wT (SL z sh 5) := (((FrO.of_below h13 _).then h14).then h15).then hbT
  have E3 : FrO p3 wT (SL z sh 4) := back_put (((FrO.of_below h10 _).then h11).then h12) P4 E4 (fun _ _ h => by unfold SL; omega)
  have E2 : FrO p2 wT (SL z sh 3) := back_put (((FrO.of_below h7 _).then h8).then h9) P3 E3 (fun _ _ h => by unfold SL; omega)
  have E1 : FrO p1 wT (SL z sh 2) := back_put (((FrO.of_below h4 _).then h5).then h6) P2 E2 (fun _ _ h => by unfold SL; omega)
  have E0 : FrO wB wT (SL z sh 1) := back_put (((FrO.of_below h1 _).then h2).then h3) P1 E1 (fun _ _ h => by unfold SL; omega)
  have fs0 : ∀ o, wB.frozen? ⟨sh, o, none⟩ = false := fun o => (hA.frozen _ _ slt).trans (H.fsh o)
  have fz0 : ∀ o, wB.frozen? ⟨z, o, none⟩ = false := fun o => (hA.frozen _ _ zlt).trans (H.fz o)
  have K1 : FrO wB p1 (fun _ _ => True) := ((((FrO.of_below h1 (fun _ _ => True)).then h2).then h3).trans P1.fr).mono (fun _ _ _ => trivial)
  have K2 : FrO p1 p2 (fun _ _ => True) := ((((FrO.of_below h4 (fun _ _ => True)).then h5).then h6).trans P2.fr).mono (fun _ _ _ => trivial)
  have K3 : FrO p2 p3 (fun _ _ => True) := ((((FrO.of_below h7 (fun _ _ => True)).then h8).then h9).trans P3.fr).mono (fun _ _ _ => trivial)
  have fs1 : ∀ o, p1.frozen? ⟨sh, o, none⟩ = false := fun o => (K1.frozen _ _ (by omega)).trans (fs0 o)
  have fs2 : ∀ o, p2.frozen? ⟨sh, o, none⟩ = false := fun o => (K2.frozen _ _ (by omega)).trans (fs1 o)
  have fz3 : ∀ o, p3.frozen? ⟨z, o, none⟩ = false := fun o => (K3.frozen _ _ (by omega)).trans ((K2.frozen _ _ (by omega)).trans ((K1.frozen _ _ (by omega)).trans (fz0 o)))
  obtain ⟨O1p, r1, r2, r3, s3⟩ := list_put h1 o1 (fresh_of f1 (by rw [ints_len]; omega)) h2 o2 (fresh_of f2 (by rw [ptrs_len, List.length_map]; omega)) h3 o3 (fresh_of f3 (by rw [ints_len]; omega)) P1 (by omega) (by first | omega | (rw [List.length_replicate]; omega)) (by first | omega | (rw [List.length_replicate]; omega)) (by omega) (by omega) fs0
  obtain ⟨O2p, r4, r5, r6, s6⟩ := list_put h4 o4 (fresh_of f4 (by rw [ints_len]; omega)) h5 o5 (fresh_of f5 (by rw [ptrs_len, List.length_map]; omega)) h6 o6 (fresh_of f6 (by rw [ints_len, List.length_replicate]; omega)) P2 (by omega) (by first | omega | (rw [List.length_replicate]; omega)) (by first | omega | (rw [List.length_replicate]; omega)) (by omega) (by omega) fs1
  obtain ⟨L5p, r7, r8, r9, s7, s8, s9⟩ := left_put h7 o7 (fresh_or f7) h8 o8 (fresh_or f8) h9 o9 (fresh_or f9) P3 (by omega) (by omega)
  obtain ⟨O4p, r10, r11, r12, s12⟩ := list_put h10 o10 (fresh_of f10 (by rw [ints_len]; omega)) h11 o11 (fresh_of f11 (by rw [ptrs_len, List.length_map]; omega)) h12 o12 (fresh_of f12 (by rw [ints_len]; omega)) P4 (by omega) (by first | omega | (rw [List.length_replicate]; omega)) (by first | omega | (rw [List.length_replicate]; omega)) (by omega) (by omega) fz3
  have r13 := (fresh_of f13 (by rw [ints_len]; omega))
  have r14 := (fresh_of f14 (by rw [ptrs_len, List.length_map]; omega))
  have r15 := (fresh_of f15 (by rw [ints_len]; omega))
  have s13 := o13.bl
  have s14 := o14.bl
  have s15 := o15.bl
  have O5p : OrdAt wT (w15.heap.size + 1 + 1 + 1) 7 b13 b14 b15 zk zt zps :=
    ord_of_cells (by rw [cT]; rfl) (by rw [cT]; rfl) (by rw [cT]; rfl) (by rw [cT]; rfl) (o13.kept (((FrO.of_below h14 (fun _ _ => False)).then h15).then hbT) (fun _ h => h)) (o14.kept ((FrO.of_below h15 (fun _ _ => False)).then hbT) (fun _ h => h)) (o15.kept (FrO.of_below hbT (fun _ _ => False)) (fun _ h => h)) (by omega) (by omega) (by omega) (by omega) fT (by omega) (by omega) (by omega) (by omega) (by omega)
  clear h1 h2 h3 h4 h5 h6 h7 h8 h9 h10 h11 h12 h13 h14 h15 o1 o2 o3 o4 o5 o6 o7 o8 o9 o10 o11 o12 o13 o14 o15 f1 f2 f3 f4 f5 f6 f7 f8 f9 f10 f11 f12 f13 f14 f15 P1 P2 P3 P4 K1 K2 K3 fs0 fs1 fs2 fz0 fz3
  refine ⟨?_, E0, by omega, by omega, by omega, by omega, by omega⟩
  have up : ∀ {b o : Nat} {v : Value}, w.cell? ⟨b, o, none⟩ = some v → ¬ SL z sh 1 b o → wT.cell? ⟨b, o, none⟩ = some v := fun e hn => E0.some (hA.some e (fun h => h)) hn
  have aw : ∀ b, (b ≠ z ∧ b ≠ sh ∧ b ≠ ch) → b < w.heap.size → b ∉ [ch, sh, b1, b2, b3, b4, b5, b6] := fun b h hl => by
    simp only [List.mem_cons, List.not_mem_nil, or_false, not_or]
    refine ⟨?_, ?_, ?_, ?_, ?_, ?_, ?_, ?_⟩ <;> omega
  have cars' := fun h : false = true => (H.cars h)
  exact {
    nd := by
      simp only [List.nodup_cons, List.mem_cons, List.not_mem_nil, or_false, not_or, not_false_eq_true, List.nodup_nil, and_true]
      refine ⟨⟨?_, ?_, ?_, ?_, ?_, ?_, ?_, ?_, ?_, ?_, ?_, ?_, ?_, ?_, ?_⟩, ⟨?_, ?_, ?_, ?_, ?_, ?_, ?_, ?_, ?_, ?_, ?_, ?_, ?_, ?_⟩, ⟨?_, ?_, ?_, ?_, ?_, ?_, ?_, ?_, ?_, ?_, ?_, ?_, ?_⟩, ⟨?_, ?_, ?_, ?_, ?_, ?_, ?_, ?_, ?_, ?_, ?_, ?_⟩, ⟨?_, ?_, ?_, ?_, ?_, ?_, ?_, ?_, ?_, ?_, ?_⟩, ⟨?_, ?_, ?_, ?_, ?_, ?_, ?_, ?_, ?_, ?_⟩, ⟨?_, ?_, ?_, ?_, ?_, ?_, ?_, ?_, ?_⟩, ⟨?_, ?_, ?_, ?_, ?_, ?_, ?_, ?_⟩, ⟨?_, ?_, ?_, ?_, ?_, ?_, ?_⟩, ⟨?_, ?_, ?_, ?_, ?_, ?_⟩, ⟨?_, ?_, ?_, ?_, ?_⟩, ⟨?_, ?_, ?_, ?_⟩, ⟨?_, ?_, ?_⟩, ⟨?_, ?_⟩, ?_⟩ <;> omega
    O1 := O1p.keptO E1 (fun o _ _ => by unfold SL; omega) (fun o => sl_row (by omega) (by omega)) (fun o => sl_row (by omega) (by omega)) (fun o => sl_row (by omega) (by omega))
    S1 := (H.S1.keptO hA).keptO E0
    O2 := O2p.keptO E2 (fun o _ _ => by unfold SL; omega) (fun o => sl_row (by omega) (by omega)) (fun o => sl_row (by omega) (by omega)) (fun o => sl_row (by omega) (by omega))
    S2 := (H.S2.keptO hA).keptO E0
    O3 := O4p.keptO E4 (fun o _ _ => by unfold SL; omega) (fun o => sl_row (by omega) (by omega)) (fun o => sl_row (by omega) (by omega)) (fun o => sl_row (by omega) (by omega))
    S3 := (H.S3.keptO hA).keptO E0
    O4 := O5p
    S4 := (H.S4.keptO hA).keptO E0
    L5 := L5p.keptO E3 (fun o _ _ => by unfold SL; omega) (by omega) (by omega) (by omega) (fun o => sl_row (by omega) (by omega)) (fun o => sl_row (by omega) (by omega)) (fun o => sl_row (by omega) (by omega))
    n5 := fun b hb => by omega
    ok5 := fun _ => by omega
    ot5 := fun _ => by omega
    ov5 := fun _ => by omega
    last := (H.last.keptO (bad := [z, sh, ch]) hA (fun h => h) (fun h => h) (fun h => h) (fun h => h) (fun h => by
      obtain ⟨cb, rb, cc, e1, e2, e3, a1, a2⟩ := H.cars h
      exact ⟨cb, rb, cc, e1, e2, e3, by simp; omega, by simp; omega⟩) (fun _ _ _ h => h)).keptO (bad := [z, sh, ch]) E0 (by unfold SL; omega) (by unfold SL; omega) (by unfold SL; omega) (by unfold SL; omega) (fun h => by
      obtain ⟨cb, rb, cc, e1, e2, e3, a1, a2⟩ := H.cars h
      exact ⟨cb, rb, cc, hA.some e1 (fun h => h), hA.some e2 (fun h => h), hA.some e3 (fun h => h), by simp; omega, by simp; omega⟩) (fun b o hb => by simp at hb; exact sl_row hb.1 hb.2.1)
    rank := up H.rank (by unfold SL; omega)
    siz := up H.size (by unfold SL; omega)
    cars := fun h => by
      obtain ⟨cb, rb, cc, e1, e2, e3, a1, a2⟩ := H.cars h
      exact ⟨cb, rb, cc, up e1 (by unfold SL; omega), up e2 (sl_row a1.1 a1.2.1), up e3 (sl_row a2.1 a2.2.1), aw cb a1 (lt_of_cell e2), aw rb a2 (lt_of_cell e3)⟩
    chc := fun o h1 h2 => by
      obtain ⟨v, e⟩ := H.chc o h1 h2
      exact ⟨v, up e (by unfold SL; omega)⟩
    fch := fun o => (E0.frozen _ _ (by omega)).trans ((hA.frozen _ _ clt).trans (H.fch o))
    sh0 := up H.sh0 (by unfold SL; omega)
    sh1 := up H.sh1 (by unfold SL; omega)
    z1 := up H.z1 (by unfold SL; omega)
    t11 := by rw [cT]; rfl
    t12 := ⟨_, _, by rw [cT]; rfl⟩
    hpc := Nat.le_refl _
    hx1 := H.hx1
    hx2 := H.hx2
    BB := fun b hb => by omega
    Bs := by omega }

set_option maxHeartbeats 1600000 in
theorem close_true {B z ch sh : Nat} {x r sz len : Int} {bkB btB bvB qkB qvB lkB ltB lvB zkB ztB zvB okB ovB bkc btc bvc qkc qvc lkc ltc lvc zkc ztc zvc m qn ns nz : Nat} {oa : Option Addr} {on oc : Nat} {oVV : Value}
    {bk bt qk ok lk lt zk zt : List Int} {bps qps lps zps : List Nat} {ops : List (Option Nat)} {cL cQ sa za : Nat} {w wB w1 w2 w3 w4 w5 w6 w7 w8 w9 w10 w11 w12 w13 w14 w15 p1 p2 p3 p4 wT : World} {b1 c1 b2 c2 b3 c3 b4 c4 b5 c5 b6 c6 b7 c7 b8 c8 b9 c9 b10 c10 b11 c11 b12 c12 b13 c13 b14 c14 b15 c15 : Nat} {a1 a2 a3 a4 a5 a6 a7 a8 a9 a10 a11 a12 a13 a14 a15 : Option Addr}
    (H : Sit w B z ch sh true x r sz len bkB btB bvB qkB qvB lkB ltB lvB zkB ztB zvB okB ovB bkc btc bvc qkc qvc lkc ltc lvc zkc ztc zvc m qn ns nz (.slice oa on oc) oVV bk bt qk ok lk lt zk zt bps qps lps zps ops cL cQ sa za) (hNB : wB.heap.size = w.heap.size + 2) (hA : FrO w wB (fun _ _ => False)) (lon : ok.length = on)
    (o1 : Own w1 b1 (.slice a1 (ints bk).length c1) (ints bk)) (h1 : Below wB.heap.size wB w1) (f1 : wB.heap.size ≤ b1 ∨ (b1 = w.heap.size ∧ ints bk = []))
    (o2 : Own w2 b2 (.slice a2 (ptrs (bps.map some)).length c2) (ptrs (bps.map some))) (h2 : Below w1.heap.size w1 w2) (f2 : w1.heap.size ≤ b2 ∨ (b2 = w.heap.size ∧ ptrs (bps.map some) = []))
    (o3 : Own w3 b3 (.slice a3 (ints bt).length c3) (ints bt)) (h3 : Below w2.heap.size w2 w3) (f3 : w2.heap.size ≤ b3 ∨ (b3 = w.heap.size ∧ ints bt = []))
    (P1 : Put w3 p1 sh 2 (.slice a1 (ints bk).length c1) (.slice a2 (ptrs (bps.map some)).length c2) (.slice a3 (ints bt).length c3))
    (o4 : Own w4 b4 (.slice a4 (ints ok).length c4) (ints ok)) (h4 : Below p1.heap.size p1 w4) (f4 : p1.heap.size ≤ b4 ∨ (b4 = w.heap.size ∧ ints ok = []))
    (o5 : Own w5 b5 (.slice a5 (ptrs ops).length c5) (ptrs ops)) (h5 : Below w4.heap.size w4 w5) (f5 : w4.heap.size ≤ b5 ∨ (b5 = w.heap.size ∧ ptrs ops = []))
    (o6 : Own w6 b6 (.slice a6 (ints (List.replicate on 0)).length c6) (ints (List.replicate on 0))) (h6 : Below w5.heap.size w5 w6) (f6 : w5.heap.size ≤ b6 ∨ (b6 = w.heap.size ∧ ints (List.replicate on 0) = []))
    (P2 : Put w6 p2 sh 6 (.slice a4 (ints ok).length c4) (.slice a5 (ptrs ops).length c5) (.slice a6 (ints (List.replicate on 0)).length c6))
    (o7 : Own w7 b7 (.slice a7 (ints qk).length c7) (ints qk)) (h7 : Below p2.heap.size p2 w7) (f7 : p2.heap.size ≤ b7 ∨ (b7 = w.heap.size ∧ ints qk = []))
    (o8 : Own w8 b8 (.slice a8 (ptrs (qps.map some)).length c8) (ptrs (qps.map some))) (h8 : Below w7.heap.size w7 w8) (f8 : w7.heap.size ≤ b8 ∨ (b8 = w.heap.size ∧ ptrs (qps.map some) = []))
    (o9 : Own w9 b9 (.slice a9 (ints (List.replicate qn 0)).length c9) (ints (List.replicate qn 0))) (h9 : Below w8.heap.size w8 w9) (f9 : w8.heap.size ≤ b9 ∨ (b9 = w.heap.size ∧ ints (List.replicate qn 0) = []))
    (P3 : Put w9 p3 sh 10 (.slice a7 (ints qk).length c7) (.slice a8 (ptrs (qps.map some)).length c8) (.slice a9 (ints (List.replicate qn 0)).length c9))
    (o10 : Own w10 b10 (.slice a10 (ints lk).length c10) (ints lk)) (h10 : Below p3.heap.size p3 w10) (f10 : p3.heap.size ≤ b10 ∨ (b10 = w.heap.size ∧ ints lk = []))
    (o11 : Own w11 b11 (.slice a11 (ptrs (lps.map some)).length c11) (ptrs (lps.map some))) (h11 : Below w10.heap.size w10 w11) (f11 : w10.heap.size ≤ b11 ∨ (b11 = w.heap.size ∧ ptrs (lps.map some) = []))
    (o12 : Own w12 b12 (.slice a12 (ints lt).length c12) (ints lt)) (h12 : Below w11.heap.size w11 w12) (f12 : w11.heap.size ≤ b12 ∨ (b12 = w.heap.size ∧ ints lt = []))
    (P4 : Put w12 p4 z 2 (.slice a10 (ints lk).length c10) (.slice a11 (ptrs (lps.map some)).length c11) (.slice a12 (ints lt).length c12))
    (o13 : Own w13 b13 (.slice a13 (ints zk).length c13) (ints zk)) (h13 : Below p4.heap.size p4 w13) (f13 : p4.heap.size ≤ b13 ∨ (b13 = w.heap.size ∧ ints zk = []))
    (o14 : Own w14 b14 (.slice a14 (ptrs (zps.map some)).length c14) (ptrs (zps.map some))) (h14 : Below w13.heap.size w13 w14) (f14 : w13.heap.size ≤ b14 ∨ (b14 = w.heap.size ∧ ptrs (zps.map some) = []))
    (o15 : Own w15 b15 (.slice a15 (ints zt).length c15) (ints zt)) (h15 : Below w14.heap.size w14 w15) (f15 : w14.heap.size ≤ b15 ∨ (b15 = w.heap.size ∧ ints zt = []))
    (hT : wT = (((w15.alloc (.cells #[.int .i32 1, .int .i32 2, .int .i32 3] 21)).alloc (.cells #[.int .u64 1] 48)).alloc (.cells #[.slice (some ⟨w15.heap.size + 1, 0, none⟩) 1 1] 73)).alloc (.cells #[.slice none 0 0, .slice none 0 0, .int .i64 0, .pointer none, .int .u64 0, .int .u64 0, .int .i64 0, .slice a13 (ints zk).length c13, .slice a14 (ptrs (zps.map some)).length c14, .slice a15 (ints zt).length c15, .int .i64 0, .slice (some ⟨w15.heap.size, 0, none⟩) 3 3, .slice (some ⟨w15.heap.size + 1 + 1, 0, none⟩) 1 1, .int .u64 0] 79)) :
    PreT wT B (w15.heap.size + 1 + 1 + 1) z ch sh b1 b2 b3 b7 b8 b9 b10 b11 b12 b13 b14 b15 b4 b5 b6 true x r sz len bk bt qk (List.replicate qn 0) ok (List.replicate on 0) lk lt zk zt bps qps lps zps ops cL cQ sa za 3 (some ⟨w15.heap.size, 0, none⟩) ∧ FrO wB wT (SL z sh 1) ∧ (wB.heap.size ≤ b2 ∧ wB.heap.size ≤ b8 ∧ wB.heap.size ≤ b11 ∧ wB.heap.size ≤ b14 ∧ wB.heap.size ≤ w15.heap.size) := by
  obtain ⟨lbk, lbt, lbp, hm0, hm5⟩ := H.lm
  obtain ⟨lqk, lqp, hq0, hq5⟩ := H.lq
  obtain ⟨llk, llt, llp, hs0, hs5⟩ := H.ls
  obtain ⟨lzk, lzt, lzp, hz0, hz5⟩ := H.lz
  obtain ⟨lok, lop⟩ := H.lo
  have zlt : z < w.heap.size := lt_of_cell H.z1
  have slt : sh < w.heap.size := lt_of_cell H.sh0
  have clt : ch < w.heap.size := lt_of_cell H.rank
  have n1 := H.n1
  have n2 := H.n2
  have n3 := H.n3
  have Bz := H.Bz
  have Bsh := H.Bsh
  have Bch := H.Bch
  have Bs := H.Bs
  obtain ⟨hbT, hsT, cT, fT⟩ := box_of w15 _ _ _ _ wT hT
  clear hT
  have z1 := h1.size
  have z2 := h2.size
  have z3 := h3.size
  have y1 := P1.fr.size
  have z4 := h4.size
  have z5 := h5.size
  have z6 := h6.size
  have y2 := P2.fr.size
  have z7 := h7.size
  have z8 := h8.size
  have z9 := h9.size
  have y3 := P3.fr.size
  have z10 := h10.size
  have z11 := h11.size
  have z12 := h12.size
  have y4 := P4.fr.size
  have z13 := h13.size
  have z14 := h14.size
  have z15 := h15.size
  have E4 : FrO p4 wT (SL z sh 5) := (((FrO.of_below h13 _).then h14).then h15).then hbT
  have E3 : FrO p3 wT (SL z sh 4) := back_put (((FrO.of_below h10 _).then h11).then h12) P4 E4 (fun _ _ h => by unfold SL; omega)
  have E2 : FrO p2 wT (SL z sh 3) := back_put (((FrO.of_below h7 _).then h8).then h9) P3 E3 (fun _ _ h => by unfold SL; omega)
  have E1 : FrO p1 wT (SL z sh 2) := back_put (((FrO.of_below h4 _).then h5).then h6) P2 E2 (fun _ _ h => by unfold SL; omega)
  have E0 : FrO wB wT (SL z sh 1) := back_put (((FrO.of_below h1 _).then h2).then h3) P1 E1 (fun _ _ h => by unfold SL; omega)
  have fs0 : ∀ o, wB.frozen? ⟨sh, o, none⟩ = false := fun o => (hA.frozen _ _ slt).trans (H.fsh o)
  have fz0 : ∀ o, wB.frozen? ⟨z, o, none⟩ = false := fun o => (hA.frozen _ _ zlt).trans (H.fz o)
  have K1 : FrO wB p1 (fun _ _ => True) := ((((FrO.of_below h1 (fun _ _ => True)).then h2).then h3).trans P1.fr).mono (fun _ _ _ => trivial)
  have K2 : FrO p1 p2 (fun _ _ => True) := ((((FrO.of_below h4 (fun _ _ => True)).then h5).then h6).trans P2.fr).mono (fun _ _ _ => trivial)
  have K3 : FrO p2 p3 (fun _ _ => True) := ((((FrO.of_below h7 (fun _ _ => True)).then h8).then h9).trans P3.fr).mono (fun _ _ _ => trivial)
  have fs1 : ∀ o, p1.frozen? ⟨sh, o, none⟩ = false := fun o => (K1.frozen _ _ (by omega)).trans (fs0 o)
  have fs2 : ∀ o, p2.frozen? ⟨sh, o, none⟩ = false := fun o => (K2.frozen _ _ (by omega)).trans (fs1 o)
  have fz3 : ∀ o, p3.frozen? ⟨z, o, none⟩ = false := fun o => (K3.frozen _ _ (by omega)).trans ((K2.frozen _ _ (by omega)).trans ((K1.frozen _ _ (by omega)).trans (fz0 o)))
  obtain ⟨O1p, r1, r2, r3, s3⟩ := list_put h1 o1 (fresh_of f1 (by rw [ints_len]; omega)) h2 o2 (fresh_of f2 (by rw [ptrs_len, List.length_map]; omega)) h3 o3 (fresh_of f3 (by rw [ints_len]; omega)) P1 (by omega) (by first | omega | (rw [List.length_replicate]; omega)) (by first | omega | (rw [List.length_replicate]; omega)) (by omega) (by omega) fs0
  obtain ⟨L5p, r4, r5, r6, s4, s5, s6⟩ := left_put h4 o4 (fresh_or f4) h5 o5 (fresh_or f5) h6 o6 (fresh_or f6) P2 (by omega) (by omega)
  obtain ⟨O3p, r7, r8, r9, s9⟩ := list_put h7 o7 (fresh_of f7 (by rw [ints_len]; omega)) h8 o8 (fresh_of f8 (by rw [ptrs_len, List.length_map]; omega)) h9 o9 (fresh_of f9 (by rw [ints_len, List.length_replicate]; omega)) P3 (by omega) (by first | omega | (rw [List.length_replicate]; omega)) (by first | omega | (rw [List.length_replicate]; omega)) (by omega) (by omega) fs2
  obtain ⟨O4p, r10, r11, r12, s12⟩ := list_put h10 o10 (fresh_of f10 (by rw [ints_len]; omega)) h11 o11 (fresh_of f11 (by rw [ptrs_len, List.length_map]; omega)) h12 o12 (fresh_of f12 (by rw [ints_len]; omega)) P4 (by omega) (by first | omega | (rw [List.length_replicate]; omega)) (by first | omega | (rw [List.length_replicate]; omega)) (by omega) (by omega) fz3
  have r13 := (fresh_of f13 (by rw [ints_len]; omega))
  have r14 := (fresh_of f14 (by rw [ptrs_len, List.length_map]; omega))
  have r15 := (fresh_of f15 (by rw [ints_len]; omega))
  have s13 := o13.bl
  have s14 := o14.bl
  have s15 := o15.bl
  have O5p : OrdAt wT (w15.heap.size + 1 + 1 + 1) 7 b13 b14 b15 zk zt zps :=
    ord_of_cells (by rw [cT]; rfl) (by rw [cT]; rfl) (by rw [cT]; rfl) (by rw [cT]; rfl) (o13.kept (((FrO.of_below h14 (fun _ _ => False)).then h15).then hbT) (fun _ h => h)) (o14.kept ((FrO.of_below h15 (fun _ _ => False)).then hbT) (fun _ h => h)) (o15.kept (FrO.of_below hbT (fun _ _ => False)) (fun _ h => h)) (by omega) (by omega) (by omega) (by omega) fT (by omega) (by omega) (by omega) (by omega) (by omega)
  clear h1 h2 h3 h4 h5 h6 h7 h8 h9 h10 h11 h12 h13 h14 h15 o1 o2 o3 o4 o5 o6 o7 o8 o9 o10 o11 o12 o13 o14 o15 f1 f2 f3 f4 f5 f6 f7 f8 f9 f10 f11 f12 f13 f14 f15 P1 P2 P3 P4 K1 K2 K3 fs0 fs1 fs2 fz0 fz3
  refine ⟨?_, E0, by omega, by omega, by omega, by omega, by omega⟩
  have up : ∀ {b o : Nat} {v : Value}, w.cell? ⟨b, o, none⟩ = some v → ¬ SL z sh 1 b o → wT.cell? ⟨b, o, none⟩ = some v := fun e hn => E0.some (hA.some e (fun h => h)) hn
  have aw : ∀ b, (b ≠ z ∧ b ≠ sh ∧ b ≠ ch) → b < w.heap.size → b ∉ [ch, sh, b1, b2, b3, b7, b8, b9] := fun b h hl => by
    simp only [List.mem_cons, List.not_mem_nil, or_false, not_or]
    refine ⟨?_, ?_, ?_, ?_, ?_, ?_, ?_, ?_⟩ <;> omega
  have cars' := fun h : true = true => (H.cars h)
  exact {
    nd := by
      simp only [List.nodup_cons, List.mem_cons, List.not_mem_nil, or_false, not_or, not_false_eq_true, List.nodup_nil, and_true]
      refine ⟨⟨?_, ?_, ?_, ?_, ?_, ?_, ?_, ?_, ?_, ?_, ?_, ?_, ?_, ?_, ?_⟩, ⟨?_, ?_, ?_, ?_, ?_, ?_, ?_, ?_, ?_, ?_, ?_, ?_, ?_, ?_⟩, ⟨?_, ?_, ?_, ?_, ?_, ?_, ?_, ?_, ?_, ?_, ?_, ?_, ?_⟩, ⟨?_, ?_, ?_, ?_, ?_, ?_, ?_, ?_, ?_, ?_, ?_, ?_⟩, ⟨?_, ?_, ?_, ?_, ?_, ?_, ?_, ?_, ?_, ?_, ?_⟩, ⟨?_, ?_, ?_, ?_, ?_, ?_, ?_, ?_, ?_, ?_⟩, ⟨?_, ?_, ?_, ?_, ?_, ?_, ?_, ?_, ?_⟩, ⟨?_, ?_, ?_, ?_, ?_, ?_, ?_, ?_⟩, ⟨?_, ?_, ?_, ?_, ?_, ?_, ?_⟩, ⟨?_, ?_, ?_, ?_, ?_, ?_⟩, ⟨?_, ?_, ?_, ?_, ?_⟩, ⟨?_, ?_, ?_, ?_⟩, ⟨?_, ?_, ?_⟩, ⟨?_, ?_⟩, ?_⟩ <;> omega
    O1 := O1p.keptO E1 (fun o _ _ => by unfold SL; omega) (fun o => sl_row (by omega) (by omega)) (fun o => sl_row (by omega) (by omega)) (fun o => sl_row (by omega) (by omega))
    S1 := (H.S1.keptO hA).keptO E0
    O2 := O3p.keptO E3 (fun o _ _ => by unfold SL; omega) (fun o => sl_row (by omega) (by omega)) (fun o => sl_row (by omega) (by omega)) (fun o => sl_row (by omega) (by omega))
    S2 := (H.S2.keptO hA).keptO E0
    O3 := O4p.keptO E4 (fun o _ _ => by unfold SL; omega) (fun o => sl_row (by omega) (by omega)) (fun o => sl_row (by omega) (by omega)) (fun o => sl_row (by omega) (by omega))
    S3 := (H.S3.keptO hA).keptO E0
    O4 := O5p
    S4 := (H.S4.keptO hA).keptO E0
    L5 := L5p.keptO E2 (fun o _ _ => by unfold SL; omega) (by omega) (by omega) (by omega) (fun o => sl_row (by omega) (by omega)) (fun o => sl_row (by omega) (by omega)) (fun o => sl_row (by omega) (by omega))
    n5 := fun b hb => by omega
    ok5 := fun _ => by omega
    ot5 := fun _ => by omega
    ov5 := fun _ => by omega
    last := (H.last.keptO (bad := [z, sh, ch]) hA (fun h => h) (fun h => h) (fun h => h) (fun h => h) (fun h => by
      obtain ⟨cb, rb, cc, e1, e2, e3, a1, a2⟩ := H.cars h
      exact ⟨cb, rb, cc, e1, e2, e3, by simp; omega, by simp; omega⟩) (fun _ _ _ h => h)).keptO (bad := [z, sh, ch]) E0 (by unfold SL; omega) (by unfold SL; omega) (by unfold SL; omega) (by unfold SL; omega) (fun h => by
      obtain ⟨cb, rb, cc, e1, e2, e3, a1, a2⟩ := H.cars h
      exact ⟨cb, rb, cc, hA.some e1 (fun h => h), hA.some e2 (fun h => h), hA.some e3 (fun h => h), by simp; omega, by simp; omega⟩) (fun b o hb => by simp at hb; exact sl_row hb.1 hb.2.1)
    rank := up H.rank (by unfold SL; omega)
    siz := up H.size (by unfold SL; omega)
    cars := fun h => by
      obtain ⟨cb, rb, cc, e1, e2, e3, a1, a2⟩ := H.cars h
      exact ⟨cb, rb, cc, up e1 (by unfold SL; omega), up e2 (sl_row a1.1 a1.2.1), up e3 (sl_row a2.1 a2.2.1), aw cb a1 (lt_of_cell e2), aw rb a2 (lt_of_cell e3)⟩
    chc := fun o h1 h2 => by
      obtain ⟨v, e⟩ := H.chc o h1 h2
      exact ⟨v, up e (by unfold SL; omega)⟩
    fch := fun o => (E0.frozen _ _ (by omega)).trans ((hA.frozen _ _ clt).trans (H.fch o))
    sh0 := up H.sh0 (by unfold SL; omega)
    sh1 := up H.sh1 (by unfold SL; omega)
    z1 := up H.z1 (by unfold SL; omega)
    t11 := by rw [cT]; rfl
    t12 := ⟨_, _, by rw [cT]; rfl⟩
    hpc := Nat.le_refl _
    hx1 := H.hx1
    hx2 := H.hx2
    BB := fun b hb => by omega
    Bs := by omega }

end Go.Proofs.Ybulkexnkw
