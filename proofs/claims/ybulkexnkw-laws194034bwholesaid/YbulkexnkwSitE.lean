/-
  The law's memory ahead of the sort.
-/
import Derived.Test.YbulkexnkwT1p
namespace Go.Proofs.Ybulkexnkw
open Go.RowKit Go.Sort

/-- The law's memory ahead of the sort. -/
structure SitE (w : World) (B z ch sh eB : Nat) (two : Bool) (x r sz len : Int) (qkB qvB lkB ltB lvB zkB ztB zvB okB ovB qkc qvc lkc ltc lvc zkc ztc zvc m qn ns nz : Nat) (oKV oVV : Value)
    (qk ok lk lt zk zt : List Int) (es : List Ent) (qps lps zps : List Nat) (ops : List (Option Nat)) (cQ sa za : Nat) : Prop where
  oqk : Own w qkB (.slice (some ⟨qkB, 0, none⟩) qn qkc) (ints qk)
  oqv : Own w qvB (.slice (some ⟨qvB, 0, none⟩) qn qvc) (ptrs (qps.map some))
  olk : Own w lkB (.slice (some ⟨lkB, 0, none⟩) ns lkc) (ints lk)
  olt : Own w ltB (.slice (some ⟨ltB, 0, none⟩) ns ltc) (ints lt)
  olv : Own w lvB (.slice (some ⟨lvB, 0, none⟩) ns lvc) (ptrs (lps.map some))
  ozk : Own w zkB (.slice (some ⟨zkB, 0, none⟩) nz zkc) (ints zk)
  ozt : Own w ztB (.slice (some ⟨ztB, 0, none⟩) nz ztc) (ints zt)
  ozv : Own w zvB (.slice (some ⟨zvB, 0, none⟩) nz zvc) (ptrs (zps.map some))
  ook : Own w okB oKV (ints ok)
  oov : Own w ovB oVV (ptrs ops)
  lm : es.length = m ∧ 0 < m ∧ m ≤ 5000
  lq : qk.length = qn ∧ qps.length = qn ∧ 0 < qn ∧ qn ≤ 5000
  ls : lk.length = ns ∧ lt.length = ns ∧ lps.length = ns ∧ 0 < ns ∧ ns ≤ 5000
  lz : zk.length = nz ∧ zt.length = nz ∧ zps.length = nz ∧ 0 < nz ∧ nz ≤ 5000
  lo : ok.length = ops.length ∧ ops.length ≤ 5000
  ents : EntsAt w eB es
  fe : ∀ o, w.frozen? ⟨eB, o, none⟩ = false
  el : eB < w.heap.size
  ne : eB ≠ z ∧ eB ≠ sh ∧ eB ≠ ch
  Be : B ≤ eB
  ht : (es.map (fun e => e.2.1)).Nodup
  hb : (es.map (fun e => e.2.2)).Nodup
  ho : ∀ e, e ∈ es → Obj w e.2.2
  hm : (x, r, ch) ∈ es
  S2 : Seat w qk (List.replicate qn 0) qps cQ ch r 0
  S3 : Seat w lk lt lps sa sh len 0
  S4 : Seat w zk zt zps za z sz 0
  nR : ∀ b, b ∈ [qkB, qvB, lkB, ltB, lvB, zkB, ztB, zvB, okB, ovB] → (b ≠ z ∧ b ≠ sh ∧ b ≠ ch) ∧ b ≠ eB
  n1 : z ≠ sh
  n2 : z ≠ ch
  n3 : sh ≠ ch
  z1 : w.cell? ⟨z, 1, none⟩ = some (.int .i64 999)
  zc : ∀ o, 2 ≤ o → o ≤ 5 → ∃ v, w.cell? ⟨z, o, none⟩ = some v
  fz : ∀ o, w.frozen? ⟨z, o, none⟩ = false
  sh0 : w.cell? ⟨sh, 0, none⟩ = some (.int .i64 len)
  sh1 : w.cell? ⟨sh, 1, none⟩ = some (.int .i64 (-7))
  shc : ∀ o, 2 ≤ o → o ≤ 13 → ∃ v, w.cell? ⟨sh, o, none⟩ = some v
  fsh : ∀ o, w.frozen? ⟨sh, o, none⟩ = false
  chc : ∀ o, 13 ≤ o → o ≤ 14 → ∃ v, w.cell? ⟨ch, o, none⟩ = some v
  fch : ∀ o, w.frozen? ⟨ch, o, none⟩ = false
  last : LastAt w ch two x
  rank : w.cell? ⟨ch, 2, none⟩ = some (.int .i64 r)
  size : w.cell? ⟨ch, 3, none⟩ = some (.int .i64 sz)
  cars : two = true → ∃ cb rb cc, w.cell? ⟨ch, 19, none⟩ = some (.slice (some ⟨cb, 0, none⟩) 2 cc) ∧ w.cell? ⟨cb, 1, none⟩ = some (.pointer (some ⟨rb, 0, none⟩)) ∧ w.cell? ⟨rb, 11, none⟩ = some (.int .i64 x) ∧ ((cb ≠ z ∧ cb ≠ sh ∧ cb ≠ ch) ∧ cb ≠ eB) ∧ ((rb ≠ z ∧ rb ≠ sh ∧ rb ≠ ch) ∧ rb ≠ eB)
  hx1 : -9223372036854775808 ≤ x
  hx2 : x ≤ 9223372036854775807
  Bz : B ≤ z
  Bsh : B ≤ sh
  Bch : B ≤ ch
  Bs : B ≤ w.heap.size


theorem FrO.strike {w w' : World} {S T : Nat → Nat → Prop} (h : FrO w w' S) (hs : ∀ b o, b < w.heap.size → S b o → T b o) : FrO w w' T :=
  ⟨h.os, h.tape, h.output, h.size, fun b o hb hn => h.cell b o hb (fun e => hn (hs b o hb e)), h.frozen, fun b hb hn => h.block b hb (fun o e => hn o (hs b o hb e)), h.obj⟩

theorem sit_of {w w' : World} {B z ch sh eB : Nat} {two : Bool} {x r sz len : Int} {bkB btB bvB qkB qvB lkB ltB lvB zkB ztB zvB okB ovB bkc btc bvc qkc qvc lkc ltc lvc zkc ztc zvc m qn ns nz : Nat} {oKV oVV : Value}
    {qk ok lk lt zk zt : List Int} {es es' : List Ent} {qps lps zps : List Nat} {ops : List (Option Nat)} {cL cQ sa za : Nat}
    (H : SitE w B z ch sh eB two x r sz len qkB qvB lkB ltB lvB zkB ztB zvB okB ovB qkc qvc lkc ltc lvc zkc ztc zvc m qn ns nz oKV oVV qk ok lk lt zk zt es qps lps zps ops cQ sa za)
    (F : FrO w w' (fun b _ => b = eB)) (hp : es'.Perm es) (hS : Seat w (es'.map (fun e => e.1)) (es'.map (fun e => e.2.1)) (es'.map (fun e => e.2.2)) cL ch x r)
    (obk : Own w' bkB (.slice (some ⟨bkB, 0, none⟩) m bkc) (ints (es'.map (fun e => e.1)))) (obt : Own w' btB (.slice (some ⟨btB, 0, none⟩) m btc) (ints (es'.map (fun e => e.2.1)))) (obv : Own w' bvB (.slice (some ⟨bvB, 0, none⟩) m bvc) (ptrs ((es'.map (fun e => e.2.2)).map some)))
    (hk : w.heap.size ≤ bkB) (ht : w.heap.size ≤ btB) (hv : w.heap.size ≤ bvB) :
    Sit w' B z ch sh two x r sz len bkB btB bvB qkB qvB lkB ltB lvB zkB ztB zvB okB ovB bkc btc bvc qkc qvc lkc ltc lvc zkc ztc zvc m qn ns nz oKV oVV (es'.map (fun e => e.1)) (es'.map (fun e => e.2.1)) qk ok lk lt zk zt (es'.map (fun e => e.2.2)) qps lps zps ops cL cQ sa za := by
  have zlt : z < w.heap.size := lt_of_cell H.z1
  have slt : sh < w.heap.size := lt_of_cell H.sh0
  have clt : ch < w.heap.size := lt_of_cell H.rank
  obtain ⟨ez, es1, ec⟩ := H.ne
  have hl : es'.length = m := by rw [hp.length_eq]; exact H.lm.1
  have hm0 := H.lm.2
  have up : ∀ {b o : Nat} {v : Value}, w.cell? ⟨b, o, none⟩ = some v → b ≠ eB → w'.cell? ⟨b, o, none⟩ = some v := fun e h => F.some e h
  exact {
    obk := obk
    obt := obt
    obv := obv
    oqk := H.oqk.kept F (fun _ => (H.nR _ (by simp)).2)
    oqv := H.oqv.kept F (fun _ => (H.nR _ (by simp)).2)
    olk := H.olk.kept F (fun _ => (H.nR _ (by simp)).2)
    olt := H.olt.kept F (fun _ => (H.nR _ (by simp)).2)
    olv := H.olv.kept F (fun _ => (H.nR _ (by simp)).2)
    ozk := H.ozk.kept F (fun _ => (H.nR _ (by simp)).2)
    ozt := H.ozt.kept F (fun _ => (H.nR _ (by simp)).2)
    ozv := H.ozv.kept F (fun _ => (H.nR _ (by simp)).2)
    ook := H.ook.kept F (fun _ => (H.nR _ (by simp)).2)
    oov := H.oov.kept F (fun _ => (H.nR _ (by simp)).2)
    lm := by simp [hl, hm0]
    lq := H.lq
    ls := H.ls
    lz := H.lz
    lo := H.lo
    S1 := hS.keptO F
    S2 := H.S2.keptO F
    S3 := H.S3.keptO F
    S4 := H.S4.keptO F
    nR := fun b hb => by
      simp only [List.mem_cons, List.not_mem_nil, or_false] at hb
      rcases hb with rfl | rfl | rfl | hb
      · omega
      · omega
      · omega
      · exact (H.nR b (by simpa using hb)).1
    n1 := H.n1
    n2 := H.n2
    n3 := H.n3
    z1 := up H.z1 (Ne.symm ez)
    zc := fun o h1 h2 => by obtain ⟨v, e⟩ := H.zc o h1 h2; exact ⟨v, up e (Ne.symm ez)⟩
    fz := fun o => (F.frozen _ _ zlt).trans (H.fz o)
    sh0 := up H.sh0 (Ne.symm es1)
    sh1 := up H.sh1 (Ne.symm es1)
    shc := fun o h1 h2 => by obtain ⟨v, e⟩ := H.shc o h1 h2; exact ⟨v, up e (Ne.symm es1)⟩
    fsh := fun o => (F.frozen _ _ slt).trans (H.fsh o)
    chc := fun o h1 h2 => by obtain ⟨v, e⟩ := H.chc o h1 h2; exact ⟨v, up e (Ne.symm ec)⟩
    fch := fun o => (F.frozen _ _ clt).trans (H.fch o)
    last := H.last.keptO (bad := [eB]) F (Ne.symm ec) (Ne.symm ec) (Ne.symm ec) (Ne.symm ec) (fun h => by
      obtain ⟨cb, rb, cc, e1, e2, e3, a1, a2⟩ := H.cars h
      exact ⟨cb, rb, cc, e1, e2, e3, by simpa using a1.2, by simpa using a2.2⟩) (fun b _ hb => by simpa using hb)
    rank := up H.rank (Ne.symm ec)
    size := up H.size (Ne.symm ec)
    cars := fun h => by
      obtain ⟨cb, rb, cc, e1, e2, e3, a1, a2⟩ := H.cars h
      exact ⟨cb, rb, cc, up e1 (Ne.symm ec), up e2 a1.2, up e3 a2.2, a1.1, a2.1⟩
    hx1 := H.hx1
    hx2 := H.hx2
    Bz := H.Bz
    Bsh := H.Bsh
    Bch := H.Bch
    Bs := Nat.le_trans H.Bs F.size }
end Go.Proofs.Ybulkexnkw
