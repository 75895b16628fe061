/-
  The law's memory just ahead of the call of dropShaped; the function's text from a region on.
-/
import Derived.Test.YbulkexnkwChk
import Derived.Test.YbulkexnkwDropA
import Derived.Test.YbulkexnkwDropB1
import Derived.Test.YbulkexnkwDropB2
namespace Go.Proofs.Ybulkexnkw
open Go.RowKit

def firstReg : Code → Option Nat
  | .region k _ _ => some k
  | .seq a _ => firstReg a
  | .block _ c => firstReg c
  | .scope c => firstReg c
  | _ => none
/-- The function's text from the statement on that begins with region n. -/
def tailAt (n : Nat) : Code → Code
  | .seq a b => if firstReg a = some n then .seq a b else tailAt n b
  | c => c
def bodyOf (f : Func) : Code := f.body.getD .skip

theorem vwB_below {w w' : World} {b : Nat} {v : Value} {vs : List Value} (h : VwB w b v vs) (hb : ∀ a : Addr, a.block < w.heap.size → w'.cell? a = w.cell? a) : VwB w' b v vs := by
  obtain ⟨a, c, e, H⟩ := h
  refine ⟨a, c, e, fun h0 => ?_⟩
  obtain ⟨o, ea, hc⟩ := H h0
  refine ⟨o, ea, fun j hj => ?_⟩
  have h1 := hc j hj
  rw [hb ⟨b, o + j, none⟩ (lt_of_cell (h1.trans (List.getElem?_eq_getElem hj)))]
  exact h1
theorem OrdLeft.below {w w' : World} {ob oo kb vb tb : Nat} {ks ts : List Int} {ps : List (Option Nat)} {m : Int} (h : OrdLeft w ob oo kb vb tb ks ts ps m) (hb : ∀ a : Addr, a.block < w.heap.size → w'.cell? a = w.cell? a) : OrdLeft w' ob oo kb vb tb ks ts ps m where
  c0 := by obtain ⟨v, e, H⟩ := h.c0; exact ⟨v, (hb _ (lt_of_cell e)).trans e, vwB_below H hb⟩
  c1 := by obtain ⟨v, e, H⟩ := h.c1; exact ⟨v, (hb _ (lt_of_cell e)).trans e, vwB_below H hb⟩
  c2 := by obtain ⟨v, e, H⟩ := h.c2; exact ⟨v, (hb _ (lt_of_cell e)).trans e, vwB_below H hb⟩
  c3 := (hb _ (lt_of_cell h.c3)).trans h.c3
theorem cell_below {w w' : World} (h : Below w.heap.size w w') : ∀ a : Addr, a.block < w.heap.size → w'.cell? a = w.cell? a := fun _ ha => h.cell ha

/-- The law's memory just ahead of the call. -/
structure Pre (w : World) (B tB z ch sh kb1 vb1 tb1 kb2 vb2 tb2 kb3 vb3 tb3 kb4 vb4 tb4 kb5 vb5 tb5 : Nat) (two : Bool) (x r sz len slot : Int) (bk bt qk qt ok ot lk lt zk zt : List Int) (bps qps lps zps : List Nat) (ops : List (Option Nat)) (cL cQ sa za pc : Nat) (pa : Option Addr) : Prop where
  nd : [ch, sh, kb1, vb1, tb1, kb2, vb2, tb2, tB, z, kb3, vb3, tb3, kb4, vb4, tb4].Nodup
  O1 : OrdAt w sh 2 kb1 vb1 tb1 bk bt bps
  S1 : Seat w bk bt bps cL ch x r
  O2 : OrdAt w sh (qOff two) kb2 vb2 tb2 qk qt qps
  S2 : Seat w qk qt qps cQ ch r 0
  O3 : OrdAt w z 2 kb3 vb3 tb3 lk lt lps
  S3 : Seat w lk lt lps sa sh len 0
  O4 : OrdAt w tB 7 kb4 vb4 tb4 zk zt zps
  S4 : Seat w zk zt zps za z sz 0
  L5 : OrdLeft w sh (qOff (!two)) kb5 vb5 tb5 ok ot ops 0
  n5 : ∀ b, b = kb5 ∨ b = vb5 ∨ b = tb5 → ¬ (b = vb1 ∨ b = vb2 ∨ b = ch ∨ b = sh ∨ b = tB ∨ b = z ∨ b = vb3 ∨ b = vb4)
  ok5 : 0 < ok.length → kb5 < w.heap.size
  ot5 : 0 < ot.length → tb5 < w.heap.size
  ov5 : 0 < ops.length → vb5 < w.heap.size
  hch : ChainAt w ch sh two x r sz slot (away8 ch sh kb1 vb1 tb1 kb2 vb2 tb2)
  fch : ∀ o, w.frozen? ⟨ch, o, none⟩ = false
  sh0 : w.cell? ⟨sh, 0, none⟩ = some (.int .i64 len)
  sh1 : w.cell? ⟨sh, 1, none⟩ = some (.int .i64 (-7))
  z1 : w.cell? ⟨z, 1, none⟩ = some (.int .i64 999)
  t11 : w.cell? ⟨tB, 11, none⟩ = some (.slice pa 3 pc)
  t12 : ∃ a c, w.cell? ⟨tB, 12, none⟩ = some (.slice (some a) 1 c)
  hpc : 3 ≤ pc
  hx1 : -9223372036854775808 ≤ x
  hx2 : x ≤ 9223372036854775807
  hs1 : -9223372036854775808 ≤ slot
  hs2 : slot ≤ 9223372036854775807
  BB : ∀ b, (b = vb1 ∨ b = vb2 ∨ b = ch ∨ b = sh ∨ b = tB ∨ b = z ∨ b = vb3 ∨ b = vb4) → B ≤ b
  Bs : B ≤ w.heap.size
end Go.Proofs.Ybulkexnkw
