/-
  The law's memory behind the sort and the split into three rows; what the lists' stores leave.
-/
import Derived.Test.YbulkexnkwMk
namespace Go.Proofs.Ybulkexnkw
open Go.RowKit

/-- The law's memory behind the sort. -/
structure Sit (w : World) (B z ch sh : Nat) (two : Bool) (x r sz len : Int) (bkB btB bvB qkB qvB lkB ltB lvB zkB ztB zvB okB ovB bkc btc bvc qkc qvc lkc ltc lvc zkc ztc zvc m qn ns nz : Nat) (oKV oVV : Value)
    (bk bt qk ok lk lt zk zt : List Int) (bps qps lps zps : List Nat) (ops : List (Option Nat)) (cL cQ sa za : Nat) : Prop where
  obk : Own w bkB (.slice (some ⟨bkB, 0, none⟩) m bkc) (ints bk)
  obt : Own w btB (.slice (some ⟨btB, 0, none⟩) m btc) (ints bt)
  obv : Own w bvB (.slice (some ⟨bvB, 0, none⟩) m bvc) (ptrs (bps.map some))
  oqk : Own w qkB (.slice (some ⟨qkB, 0, none⟩) qn qkc) (ints qk)
  oqv : Own w qvB (.slice (some ⟨qvB, 0, none⟩) qn qvc) (ptrs (qps.map some))
  olk : Own w lkB (.slice (some ⟨lkB, 0, none⟩) ns lkc) (ints lk)
  olt : Own w ltB (.slice (some ⟨ltB, 0, none⟩) ns ltc) (ints lt)
  olv : Own w lvB (.slice (some ⟨lvB, 0, none⟩) ns lvc) (ptrs (lps.map some))
  ozk : Own w zkB (.slice (some ⟨zkB, 0, none⟩) nz zkc) (ints zk)
  ozt : Own w ztB (.slice (some ⟨ztB, 0, none⟩) nz ztc) (ints zt)
  ozv : Own w zvB (.slice (some ⟨zvB, 0, none⟩) nz zvc) (ptrs (zps.map some))
  ook : Own w okB oKV (ints ok)
  oov : Own w ovB oVV (ptrs ops)
  lm : bk.length = m ∧ bt.length = m ∧ bps.length = m ∧ 0 < m ∧ m ≤ 5000
  lq : qk.length = qn ∧ qps.length = qn ∧ 0 < qn ∧ qn ≤ 5000
  ls : lk.length = ns ∧ lt.length = ns ∧ lps.length = ns ∧ 0 < ns ∧ ns ≤ 5000
  lz : zk.length = nz ∧ zt.length = nz ∧ zps.length = nz ∧ 0 < nz ∧ nz ≤ 5000
  lo : ok.length = ops.length ∧ ops.length ≤ 5000
  S1 : Seat w bk bt bps cL ch x r
  S2 : Seat w qk (List.replicate qn 0) qps cQ ch r 0
  S3 : Seat w lk lt lps sa sh len 0
  S4 : Seat w zk zt zps za z sz 0
  nR : ∀ b, b ∈ [bkB, btB, bvB, qkB, qvB, lkB, ltB, lvB, zkB, ztB, zvB, okB, ovB] → b ≠ z ∧ b ≠ sh ∧ b ≠ ch
  n1 : z ≠ sh
  n2 : z ≠ ch
  n3 : sh ≠ ch
  z1 : w.cell? ⟨z, 1, none⟩ = some (.int .i64 999)
  zc : ∀ o, 2 ≤ o → o ≤ 5 → ∃ v, w.cell? ⟨z, o, none⟩ = some v
  fz : ∀ o, w.frozen? ⟨z, o, none⟩ = false
  sh0 : w.cell? ⟨sh, 0, none⟩ = some (.int .i64 len)
  sh1 : w.cell? ⟨sh, 1, none⟩ = some (.int .i64 (-7))
  shc : ∀ o, 2 ≤ o → o ≤ 13 → ∃ v, w.cell? ⟨sh, o, none⟩ = some v
  fsh : ∀ o, w.frozen? ⟨sh, o, none⟩ = false
  chc : ∀ o, 13 ≤ o → o ≤ 14 → ∃ v, w.cell? ⟨ch, o, none⟩ = some v
  fch : ∀ o, w.frozen? ⟨ch, o, none⟩ = false
  last : LastAt w ch two x
  rank : w.cell? ⟨ch, 2, none⟩ = some (.int .i64 r)
  size : w.cell? ⟨ch, 3, none⟩ = some (.int .i64 sz)
  cars : two = true → ∃ cb rb cc, w.cell? ⟨ch, 19, none⟩ = some (.slice (some ⟨cb, 0, none⟩) 2 cc) ∧ w.cell? ⟨cb, 1, none⟩ = some (.pointer (some ⟨rb, 0, none⟩)) ∧ w.cell? ⟨rb, 11, none⟩ = some (.int .i64 x) ∧ (cb ≠ z ∧ cb ≠ sh ∧ cb ≠ ch) ∧ (rb ≠ z ∧ rb ≠ sh ∧ rb ≠ ch)
  hx1 : -9223372036854775808 ≤ x
  hx2 : x ≤ 9223372036854775807
  Bz : B ≤ z
  Bsh : B ≤ sh
  Bch : B ≤ ch
  Bs : B ≤ w.heap.size

/-- The places that the law still stores to, from store k on. -/
def SS (z sh ch k : Nat) (b o : Nat) : Prop := (k ≤ 1 ∧ b = sh ∧ 2 ≤ o ∧ o ≤ 5) ∨ (k ≤ 2 ∧ b = sh ∧ 6 ≤ o ∧ o ≤ 9) ∨ (k ≤ 3 ∧ b = sh ∧ 10 ≤ o ∧ o ≤ 13) ∨ (k ≤ 4 ∧ b = z ∧ 2 ≤ o ∧ o ≤ 5) ∨ (b = ch ∧ 13 ≤ o ∧ o ≤ 14)
theorem ss_le {z sh ch j k b o : Nat} (h : j ≤ k) (hs : SS z sh ch k b o) : SS z sh ch j b o := by unfold SS at *; omega
theorem ss_row {z sh ch k b o : Nat} (h : b ≠ z ∧ b ≠ sh ∧ b ≠ ch) : ¬ SS z sh ch k b o := by unfold SS; omega

theorem put_of (w : World) (ob oo : Nat) (k v t : Value) (h : ∀ o, oo ≤ o → o ≤ oo + 3 → ∃ u, w.cell? ⟨ob, o, none⟩ = some u) :
    Put w ((((w.setCell ⟨ob, oo, none⟩ k).setCell ⟨ob, oo + 1, none⟩ v).setCell ⟨ob, oo + 2, none⟩ t).setCell ⟨ob, oo + 3, none⟩ (.int .i64 0)) ob oo k v t := by
  obtain ⟨u0, h0⟩ := h oo (by omega) (by omega)
  obtain ⟨u1, h1⟩ := h (oo + 1) (by omega) (by omega)
  obtain ⟨u2, h2⟩ := h (oo + 2) (by omega) (by omega)
  obtain ⟨u3, h3⟩ := h (oo + 3) (by omega) (by omega)
  refine ⟨?_, ?_, ?_, ?_, ?_⟩
  · rw [sc_other (ne_off _ _ _ (by omega)), sc_other (ne_off _ _ _ (by omega)), sc_other (ne_off _ _ _ (by omega))]
    exact sc_same h0
  · rw [sc_other (ne_off _ _ _ (by omega)), sc_other (ne_off _ _ _ (by omega))]
    exact sc_same (u := u1) (by rw [sc_other (ne_off _ _ _ (by omega))]; exact h1)
  · rw [sc_other (ne_off _ _ _ (by omega))]
    exact sc_same (u := u2) (by rw [sc_other (ne_off _ _ _ (by omega)), sc_other (ne_off _ _ _ (by omega))]; exact h2)
  · exact sc_same (u := u3) (by rw [sc_other (ne_off _ _ _ (by omega)), sc_other (ne_off _ _ _ (by omega)), sc_other (ne_off _ _ _ (by omega))]; exact h3)
  · exact ((((FrO.setCell w ob oo k).trans (FrO.setCell _ ob (oo + 1) v)).trans (FrO.setCell _ ob (oo + 2) t)).trans (FrO.setCell _ ob (oo + 3) _)).mono (fun b o h => by omega)

/-- Three clones and a store: the list stands, on new rows in rising order. -/
theorem list_put {W w1 w2 w3 p : World} {ob oo kb vb tb : Nat} {k v t : Value} {ks ts : List Int} {ps : List Nat}
    (h1 : Below W.heap.size W w1) (o1 : Own w1 kb k (ints ks)) (f1 : W.heap.size ≤ kb) (h2 : Below w1.heap.size w1 w2) (o2 : Own w2 vb v (ptrs (ps.map some))) (f2 : w1.heap.size ≤ vb)
    (h3 : Below w2.heap.size w2 w3) (o3 : Own w3 tb t (ints ts)) (f3 : w2.heap.size ≤ tb) (P : Put w3 p ob oo k v t) (hob : ob < W.heap.size)
    (lk : ks.length = ps.length) (lt : ts.length = ps.length) (small : ps.length ≤ 5000) (pos : 0 < ps.length) (fz : ∀ o, W.frozen? ⟨ob, o, none⟩ = false) :
    OrdAt p ob oo kb vb tb ks ts ps ∧ W.heap.size ≤ kb ∧ kb < vb ∧ vb < tb ∧ tb < p.heap.size := by
  have l1 := o1.bl
  have l2 := o2.bl
  have l3 := o3.bl
  have s1 := h1.size
  have s2 := h2.size
  have s3 := h3.size
  have s4 := P.fr.size
  have no : ∀ b o, b ≠ ob → ¬ (b = ob ∧ oo ≤ o ∧ o ≤ oo + 3) := fun b o hb e => hb e.1
  have q1 : Own p kb k (ints ks) := ((o1.kept (FrO.of_below h2 (fun _ _ => False)) (fun _ h => h)).kept (FrO.of_below h3 (fun _ _ => False)) (fun _ h => h)).kept P.fr (fun o => no _ o (by omega))
  have q2 : Own p vb v (ptrs (ps.map some)) := (o2.kept (FrO.of_below h3 (fun _ _ => False)) (fun _ h => h)).kept P.fr (fun o => no _ o (by omega))
  have q3 : Own p tb t (ints ts) := o3.kept P.fr (fun o => no _ o (by omega))
  refine ⟨ord_of_put P q1 q2 q3 lk lt small pos (fun o => ?_) (by omega) (by omega) (by omega) (by omega) (by omega), f1, by omega, by omega, by omega⟩
  rw [P.fr.frozen _ _ (by omega), h3.frozen (by show ob < _; omega), h2.frozen (by show ob < _; omega), h1.frozen hob]
  exact fz o
/-- .. where the list may be empty. -/
theorem left_put {W w1 w2 w3 p : World} {ob oo kb vb tb d : Nat} {k v t : Value} {ks ts : List Int} {ps : List (Option Nat)}
    (h1 : Below W.heap.size W w1) (o1 : Own w1 kb k (ints ks)) (f1 : W.heap.size ≤ kb ∨ kb = d) (h2 : Below w1.heap.size w1 w2) (o2 : Own w2 vb v (ptrs ps)) (f2 : w1.heap.size ≤ vb ∨ vb = d)
    (h3 : Below w2.heap.size w2 w3) (o3 : Own w3 tb t (ints ts)) (f3 : w2.heap.size ≤ tb ∨ tb = d) (P : Put w3 p ob oo k v t) (hob : ob < W.heap.size) (hd : d ≠ ob) :
    OrdLeft p ob oo kb vb tb ks ts ps 0 ∧ (W.heap.size ≤ kb ∨ kb = d) ∧ (W.heap.size ≤ vb ∨ vb = d) ∧ (W.heap.size ≤ tb ∨ tb = d) ∧ kb < p.heap.size ∧ vb < p.heap.size ∧ tb < p.heap.size := by
  have l1 := o1.bl
  have l2 := o2.bl
  have l3 := o3.bl
  have s1 := h1.size
  have s2 := h2.size
  have s3 := h3.size
  have s4 := P.fr.size
  have no : ∀ b o, b ≠ ob → ¬ (b = ob ∧ oo ≤ o ∧ o ≤ oo + 3) := fun b o hb e => hb e.1
  have q1 : Own p kb k (ints ks) := ((o1.kept (FrO.of_below h2 (fun _ _ => False)) (fun _ h => h)).kept (FrO.of_below h3 (fun _ _ => False)) (fun _ h => h)).kept P.fr (fun o => no _ o (by omega))
  have q2 : Own p vb v (ptrs ps) := (o2.kept (FrO.of_below h3 (fun _ _ => False)) (fun _ h => h)).kept P.fr (fun o => no _ o (by omega))
  have q3 : Own p tb t (ints ts) := o3.kept P.fr (fun o => no _ o (by omega))
  exact ⟨left_of_put P q1 q2 q3, by omega, by omega, by omega, by omega, by omega, by omega⟩
theorem OrdLeft.keptO {w w' : World} {S : Nat → Nat → Prop} {ob oo kb vb tb : Nat} {ks ts : List Int} {ps : List (Option Nat)} {mk : Int} (h : OrdLeft w ob oo kb vb tb ks ts ps mk) (f : FrO w w' S)
    (hs : ∀ o, oo ≤ o → o ≤ oo + 3 → ¬ S ob o) (bk : kb < w.heap.size) (bv : vb < w.heap.size) (bt : tb < w.heap.size) (hk : ∀ o, ¬ S kb o) (hv : ∀ o, ¬ S vb o) (ht : ∀ o, ¬ S tb o) : OrdLeft w' ob oo kb vb tb ks ts ps mk :=
  h.kept (fun o h1 h2 => f.cell _ _ (lt_of_cell h.c3) (hs o h1 h2)) (fun _ o => f.cell _ _ bk (hk o)) (fun _ o => f.cell _ _ bv (hv o)) (fun _ o => f.cell _ _ bt (ht o))
theorem ints_zeros (n : Nat) : List.replicate n (Value.int .i64 0) = ints (List.replicate n 0) := by simp [ints]
end Go.Proofs.Ybulkexnkw
