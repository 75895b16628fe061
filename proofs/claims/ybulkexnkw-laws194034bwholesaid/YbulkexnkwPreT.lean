/-
  The law's memory ahead of the chain's two stores.
-/
import Derived.Test.YbulkexnkwSit
namespace Go.Proofs.Ybulkexnkw
open Go.RowKit

/-- The law's memory ahead of the chain's two stores. -/
structure PreT (w : World) (B tB z ch sh kb1 vb1 tb1 kb2 vb2 tb2 kb3 vb3 tb3 kb4 vb4 tb4 kb5 vb5 tb5 : Nat) (two : Bool) (x r sz len : Int) (bk bt qk qt ok ot lk lt zk zt : List Int) (bps qps lps zps : List Nat) (ops : List (Option Nat)) (cL cQ sa za pc : Nat) (pa : Option Addr) : Prop where
  nd : [ch, sh, kb1, vb1, tb1, kb2, vb2, tb2, tB, z, kb3, vb3, tb3, kb4, vb4, tb4].Nodup
  O1 : OrdAt w sh 2 kb1 vb1 tb1 bk bt bps
  S1 : Seat w bk bt bps cL ch x r
  O2 : OrdAt w sh (qOff two) kb2 vb2 tb2 qk qt qps
  S2 : Seat w qk qt qps cQ ch r 0
  O3 : OrdAt w z 2 kb3 vb3 tb3 lk lt lps
  S3 : Seat w lk lt lps sa sh len 0
  O4 : OrdAt w tB 7 kb4 vb4 tb4 zk zt zps
  S4 : Seat w zk zt zps za z sz 0
  L5 : OrdLeft w sh (qOff (!two)) kb5 vb5 tb5 ok ot ops 0
  n5 : ∀ b, b = kb5 ∨ b = vb5 ∨ b = tb5 → ¬ (b = vb1 ∨ b = vb2 ∨ b = ch ∨ b = sh ∨ b = tB ∨ b = z ∨ b = vb3 ∨ b = vb4)
  ok5 : 0 < ok.length → kb5 < w.heap.size
  ot5 : 0 < ot.length → tb5 < w.heap.size
  ov5 : 0 < ops.length → vb5 < w.heap.size
  last : LastAt w ch two x
  rank : w.cell? ⟨ch, 2, none⟩ = some (.int .i64 r)
  siz : w.cell? ⟨ch, 3, none⟩ = some (.int .i64 sz)
  cars : two = true → ∃ cb rb cc, w.cell? ⟨ch, 19, none⟩ = some (.slice (some ⟨cb, 0, none⟩) 2 cc) ∧ w.cell? ⟨cb, 1, none⟩ = some (.pointer (some ⟨rb, 0, none⟩)) ∧ w.cell? ⟨rb, 11, none⟩ = some (.int .i64 x) ∧ away8 ch sh kb1 vb1 tb1 kb2 vb2 tb2 cb ∧ away8 ch sh kb1 vb1 tb1 kb2 vb2 tb2 rb
  chc : ∀ o, 13 ≤ o → o ≤ 14 → ∃ v, w.cell? ⟨ch, o, none⟩ = some v
  fch : ∀ o, w.frozen? ⟨ch, o, none⟩ = false
  sh0 : w.cell? ⟨sh, 0, none⟩ = some (.int .i64 len)
  sh1 : w.cell? ⟨sh, 1, none⟩ = some (.int .i64 (-7))
  z1 : w.cell? ⟨z, 1, none⟩ = some (.int .i64 999)
  t11 : w.cell? ⟨tB, 11, none⟩ = some (.slice pa 3 pc)
  t12 : ∃ a c, w.cell? ⟨tB, 12, none⟩ = some (.slice (some a) 1 c)
  hpc : 3 ≤ pc
  hx1 : -9223372036854775808 ≤ x
  hx2 : x ≤ 9223372036854775807
  BB : ∀ b, (b = vb1 ∨ b = vb2 ∨ b = ch ∨ b = sh ∨ b = tB ∨ b = z ∨ b = vb3 ∨ b = vb4) → B ≤ b
  Bs : B ≤ w.heap.size

theorem Seat.keptO {w w' : World} {S : Nat → Nat → Prop} {ks ts : List Int} {ps : List Nat} {c p : Nat} {key tie : Int} (h : Seat w ks ts ps c p key tie) (f : FrO w w' S) : Seat w' ks ts ps c p key tie := h.kept (fun _ _ ho => f.obj _ ho)

theorem LastAt.keptO {w w' : World} {S : Nat → Nat → Prop} {ch : Nat} {two : Bool} {x : Int} {bad : List Nat} (h : LastAt w ch two x) (f : FrO w w' S) (h5 : ¬ S ch 5) (h0 : ¬ S ch 0) (h1 : ¬ S ch 1) (h19 : ¬ S ch 19)
    (hc : two = true → ∃ cb rb cc, w.cell? ⟨ch, 19, none⟩ = some (.slice (some ⟨cb, 0, none⟩) 2 cc) ∧ w.cell? ⟨cb, 1, none⟩ = some (.pointer (some ⟨rb, 0, none⟩)) ∧ w.cell? ⟨rb, 11, none⟩ = some (.int .i64 x) ∧ cb ∉ bad ∧ rb ∉ bad)
    (hb : ∀ b o, b ∉ bad → ¬ S b o) : LastAt w' ch two x := by
  cases two with
  | false =>
    obtain ⟨e1, e2, e3⟩ := h
    exact ⟨f.some e1 h5, f.some e2 h0, f.some e3 h1⟩
  | true =>
    obtain ⟨e1, e2, _⟩ := h
    obtain ⟨cb, rb, cc, g1, g2, g3, a1, a2⟩ := hc rfl
    exact ⟨f.some e1 h5, f.some e2 h0, cb, rb, cc, f.some g1 h19, f.some g2 (hb _ _ a1), f.some g3 (hb _ _ a2)⟩

theorem pre_of {w : World} {B tB z ch sh kb1 vb1 tb1 kb2 vb2 tb2 kb3 vb3 tb3 kb4 vb4 tb4 kb5 vb5 tb5 : Nat} {two : Bool} {x r sz len : Int} {bk bt qk qt ok ot lk lt zk zt : List Int} {bps qps lps zps : List Nat} {ops : List (Option Nat)} {cL cQ sa za pc : Nat} {pa : Option Addr}
    (P : PreT w B tB z ch sh kb1 vb1 tb1 kb2 vb2 tb2 kb3 vb3 tb3 kb4 vb4 tb4 kb5 vb5 tb5 two x r sz len bk bt qk qt ok ot lk lt zk zt bps qps lps zps ops cL cQ sa za pc pa) (slot : Int) (hs1 : -9223372036854775808 ≤ slot) (hs2 : slot ≤ 9223372036854775807) :
    Pre ((w.setCell ⟨ch, 13, none⟩ (.pointer (some ⟨sh, 0, none⟩))).setCell ⟨ch, 14, none⟩ (.int .i64 slot)) B tB z ch sh kb1 vb1 tb1 kb2 vb2 tb2 kb3 vb3 tb3 kb4 vb4 tb4 kb5 vb5 tb5 two x r sz len slot bk bt qk qt ok ot lk lt zk zt bps qps lps zps ops cL cQ sa za pc pa := by
  obtain ⟨v13, h13⟩ := P.chc 13 (by omega) (by omega)
  obtain ⟨v14, h14⟩ := P.chc 14 (by omega) (by omega)
  have F : FrO w ((w.setCell ⟨ch, 13, none⟩ (.pointer (some ⟨sh, 0, none⟩))).setCell ⟨ch, 14, none⟩ (.int .i64 slot)) (fun b o => b = ch ∧ 13 ≤ o ∧ o ≤ 14) :=
    ((FrO.setCell w ch 13 _).trans (FrO.setCell _ ch 14 _)).mono (fun b o h => by omega)
  have c13 : ((w.setCell ⟨ch, 13, none⟩ (.pointer (some ⟨sh, 0, none⟩))).setCell ⟨ch, 14, none⟩ (.int .i64 slot)).cell? ⟨ch, 13, none⟩ = some (.pointer (some ⟨sh, 0, none⟩)) := by
    rw [sc_other (ne_off _ _ _ (by omega))]
    exact sc_same h13
  have c14 : ((w.setCell ⟨ch, 13, none⟩ (.pointer (some ⟨sh, 0, none⟩))).setCell ⟨ch, 14, none⟩ (.int .i64 slot)).cell? ⟨ch, 14, none⟩ = some (.int .i64 slot) :=
    sc_same (u := v14) (by rw [sc_other (ne_off _ _ _ (by omega))]; exact h14)
  generalize (w.setCell ⟨ch, 13, none⟩ (.pointer (some ⟨sh, 0, none⟩))).setCell ⟨ch, 14, none⟩ (.int .i64 slot) = w' at F c13 c14 ⊢
  have nd := P.nd
  have nc : ∀ b, b ∈ [sh, kb1, vb1, tb1, kb2, vb2, tb2, tB, z, kb3, vb3, tb3, kb4, vb4, tb4] → b ≠ ch := fun b hb e => (List.nodup_cons.1 nd).1 (e ▸ hb)
  have nS : ∀ b, b ≠ ch → ∀ o, ¬ (b = ch ∧ 13 ≤ o ∧ o ≤ 14) := fun b hb o e => hb e.1
  have nk : ∀ b, b ∈ [sh, kb1, vb1, tb1, kb2, vb2, tb2, tB, z, kb3, vb3, tb3, kb4, vb4, tb4] → ∀ o, ¬ (b = ch ∧ 13 ≤ o ∧ o ≤ 14) := fun b hb => nS b (nc b hb)
  have n5 := P.n5
  have e5 : ∀ b, b = kb5 ∨ b = vb5 ∨ b = tb5 → ∀ o, ¬ (b = ch ∧ 13 ≤ o ∧ o ≤ 14) := fun b hb => nS b (fun e => n5 b hb (by simp [e]))
  have aw : ∀ b o, b ∉ [ch, sh, kb1, vb1, tb1, kb2, vb2, tb2] → ¬ (b = ch ∧ 13 ≤ o ∧ o ≤ 14) := fun b o hb e => hb (by simp [e.1])
  exact {
    nd := nd
    O1 := P.O1.keptO F (fun o _ _ => nk _ (by simp) o) (nk _ (by simp)) (nk _ (by simp)) (nk _ (by simp))
    S1 := P.S1.keptO F
    O2 := P.O2.keptO F (fun o _ _ => nk _ (by simp) o) (nk _ (by simp)) (nk _ (by simp)) (nk _ (by simp))
    S2 := P.S2.keptO F
    O3 := P.O3.keptO F (fun o _ _ => nk _ (by simp) o) (nk _ (by simp)) (nk _ (by simp)) (nk _ (by simp))
    S3 := P.S3.keptO F
    O4 := P.O4.keptO F (fun o _ _ => nk _ (by simp) o) (nk _ (by simp)) (nk _ (by simp)) (nk _ (by simp))
    S4 := P.S4.keptO F
    L5 := P.L5.kept (fun o _ _ => F.cell _ _ (lt_of_cell P.L5.c3) (nk _ (by simp) o)) (fun h o => F.cell _ _ (P.ok5 h) (e5 _ (by simp) o)) (fun h o => F.cell _ _ (P.ov5 h) (e5 _ (by simp) o)) (fun h o => F.cell _ _ (P.ot5 h) (e5 _ (by simp) o))
    n5 := n5
    ok5 := fun h => Nat.lt_of_lt_of_le (P.ok5 h) F.size
    ot5 := fun h => Nat.lt_of_lt_of_le (P.ot5 h) F.size
    ov5 := fun h => Nat.lt_of_lt_of_le (P.ov5 h) F.size
    hch := {
      last := P.last.keptO F (by omega) (by omega) (by omega) (by omega) P.cars aw
      rank := F.some P.rank (by omega)
      size := F.some P.siz (by omega)
      shape := c13
      slot := c14
      cars := fun h => by
        obtain ⟨cb, rb, cc, g1, g2, g3, a1, a2⟩ := P.cars h
        exact ⟨cb, rb, cc, F.some g1 (by omega), F.some g2 (aw _ _ a1), F.some g3 (aw _ _ a2), a1, a2⟩ }
    fch := fun o => (F.frozen _ _ (lt_of_cell P.rank)).trans (P.fch o)
    sh0 := F.some P.sh0 (nk _ (by simp) _)
    sh1 := F.some P.sh1 (nk _ (by simp) _)
    z1 := F.some P.z1 (nk _ (by simp) _)
    t11 := F.some P.t11 (nk _ (by simp) _)
    t12 := by
      obtain ⟨a, c, e⟩ := P.t12
      exact ⟨a, c, F.some e (nk _ (by simp) _)⟩
    hpc := P.hpc
    hx1 := P.hx1
    hx2 := P.hx2
    hs1 := hs1
    hs2 := hs2
    BB := P.BB
    Bs := Nat.le_trans P.Bs F.size }
end Go.Proofs.Ybulkexnkw
