/-
  dropShaped, the plain part: what it needs and what it leaves.
-/
import Derived.Test.YbulkexnkwRf
import Derived.Test.YbulkexnkwReads
namespace Go.Proofs.Ybulkexnkw
open Go.RowKit

theorem OrdAt.drewN {w : World} {ob oo kb vb tb : Nat} {ks ts : List Int} {ps : List Nat} (h : OrdAt w ob oo kb vb tb ks ts ps) (q : Nat) : OrdAt (w.drewN q) ob oo kb vb tb ks ts ps :=
  h.kept (fun _ _ _ => rfl) (fun _ => rfl) (fun _ => rfl) (fun _ => rfl) (fun _ => rfl)
theorem OrdLeft.drewN {w : World} {ob oo kb vb tb : Nat} {ks ts : List Int} {ps : List (Option Nat)} {m : Int} (h : OrdLeft w ob oo kb vb tb ks ts ps m) (q : Nat) : OrdLeft (w.drewN q) ob oo kb vb tb ks ts ps m :=
  h.kept (fun _ _ _ => rfl) (fun _ _ => rfl) (fun _ _ => rfl) (fun _ _ => rfl)
theorem Rem.undrew {w w' : World} {ob oo vb q : Nat} (h : Rem (w.drewN q) w' ob oo vb) : Rem w w' ob oo vb := ⟨h.os, h.tape, h.output, h.size, h.other, h.frozen, h.block, h.obj⟩
theorem Obj.drewN {w : World} {p : Nat} (h : Obj w p) (q : Nat) : Obj (w.drewN q) p := h
theorem LastAt.drewN {w : World} {ch : Nat} {two : Bool} {x : Int} (h : LastAt w ch two x) (q : Nat) : LastAt (w.drewN q) ch two x := by cases two <;> exact h

/-- A value at its place in a list: where it is, that it is there alone, that its key parts the list. -/
structure Seat (w : World) (ks ts : List Int) (ps : List Nat) (c p : Nat) (key tie : Int) : Prop where
  lt : c < ps.length
  at_ : ps.getD c 0 = p
  alone : ∀ j, j < ps.length → j ≠ c → ps.getD j 0 ≠ p
  objs : ∀ j, j < ps.length → Obj w (ps.getD j 0)
  le : ∀ j, j ≤ c → leq (ks.getD j 0) (ts.getD j 0) key tie
  gt : ∀ j, c < j → j < ps.length → ¬ leq (ks.getD j 0) (ts.getD j 0) key tie

theorem Seat.kept {w w' : World} {ks ts : List Int} {ps : List Nat} {c p : Nat} {key tie : Int} (h : Seat w ks ts ps c p key tie) (ho : ∀ j, j < ps.length → Obj w (ps.getD j 0) → Obj w' (ps.getD j 0)) : Seat w' ks ts ps c p key tie :=
  ⟨h.lt, h.at_, h.alone, fun j hj => ho j hj (h.objs j hj), h.le, h.gt⟩

theorem findC_seat {ob oo kb vb tb p c : Nat} {ks ts : List Int} {ps : List Nat} {key tie hint : Int} {w : World} (h : OrdAt w ob oo kb vb tb ks ts ps) (s : Seat w ks ts ps c p key tie) (hi1 : -9223372036854775808 ≤ hint) (hi2 : hint ≤ 9223372036854775807) (q : Nat) :
    Calls Yba.prog 23 #[.pointer (some ⟨ob, oo, none⟩), .int .i64 key, .int .i64 tie, .pointer (some ⟨p, 0, none⟩), .int .i64 hint] (w.drewN q) fun e w' => e = .returned (.int .i64 c) ∧ ∃ r, (w.drewN q).drewN r = w' :=
  findC_any ob oo kb vb tb p c ks ts ps key tie hint (w.drewN q) (h.drewN q) s.lt s.at_ s.alone s.objs hi1 hi2 s.le s.gt
theorem findS_seat {ob oo kb vb tb p c : Nat} {ks ts : List Int} {ps : List Nat} {key tie hint : Int} {w : World} (h : OrdAt w ob oo kb vb tb ks ts ps) (s : Seat w ks ts ps c p key tie) (hi1 : -9223372036854775808 ≤ hint) (hi2 : hint ≤ 9223372036854775807) (q : Nat) :
    Calls Yba.prog 31 #[.pointer (some ⟨ob, oo, none⟩), .int .i64 key, .int .i64 tie, .pointer (some ⟨p, 0, none⟩), .int .i64 hint] (w.drewN q) fun e w' => e = .returned (.int .i64 c) ∧ ∃ r, (w.drewN q).drewN r = w' :=
  findS_any ob oo kb vb tb p c ks ts ps key tie hint (w.drewN q) (h.drewN q) s.lt s.at_ s.alone s.objs hi1 hi2 s.le s.gt
theorem placeZ_seat {ob oo kb vb tb p c : Nat} {ks ts : List Int} {ps : List Nat} {key tie : Int} {w : World} (h : OrdAt w ob oo kb vb tb ks ts ps) (s : Seat w ks ts ps c p key tie) (q : Nat) :
    Calls Yba.prog 28 #[.pointer (some ⟨ob, oo, none⟩), .int .i64 key, .int .i64 tie] (w.drewN q) fun e w' => e = .returned (.int .i64 c) ∧ ∃ r, (w.drewN q).drewN r = w' := by
  obtain ⟨kc, hkc, h0⟩ := h.c0
  obtain ⟨tc, htc, h2⟩ := h.c2
  have := h.small
  exact placeZ_any ob oo kb tb ps.length kc tc ks ts key tie c (w.drewN q) (by omega) h0 h2 h.nums.1 h.nums.2 s.lt s.le s.gt

theorem Rem.cell {w w' : World} {ob oo vb : Nat} (h : Rem w w' ob oo vb) {b : Nat} (h1 : b ≠ vb) (h2 : b ≠ ob) (o : Nat) : w'.cell? ⟨b, o, none⟩ = w.cell? ⟨b, o, none⟩ := h.other b o h1 (Or.inl h2)
/-- The chain's own car, where it has two. -/
structure ChainAt (w : World) (ch sh : Nat) (two : Bool) (x r sz slot : Int) (away : Nat → Prop) : Prop where
  last : LastAt w ch two x
  rank : w.cell? ⟨ch, 2, none⟩ = some (.int .i64 r)
  size : w.cell? ⟨ch, 3, none⟩ = some (.int .i64 sz)
  shape : w.cell? ⟨ch, 13, none⟩ = some (.pointer (some ⟨sh, 0, none⟩))
  slot : w.cell? ⟨ch, 14, none⟩ = some (.int .i64 slot)
  cars : two = true → ∃ cb rb cc, w.cell? ⟨ch, 19, none⟩ = some (.slice (some ⟨cb, 0, none⟩) 2 cc) ∧ w.cell? ⟨cb, 1, none⟩ = some (.pointer (some ⟨rb, 0, none⟩)) ∧ w.cell? ⟨rb, 11, none⟩ = some (.int .i64 x) ∧ away cb ∧ away rb

theorem last_kept {w w' : World} {ch sh : Nat} {two : Bool} {x r sz slot : Int} {away : Nat → Prop} (h : ChainAt w ch sh two x r sz slot away) (hc : ∀ o, o ≠ 13 → w'.cell? ⟨ch, o, none⟩ = w.cell? ⟨ch, o, none⟩) (ha : ∀ b, away b → ∀ o, w'.cell? ⟨b, o, none⟩ = w.cell? ⟨b, o, none⟩) : LastAt w' ch two x := by
  cases two with
  | false =>
    obtain ⟨h1, h2, h3⟩ := h.last
    exact ⟨(hc 5 (by omega)).trans h1, (hc 0 (by omega)).trans h2, (hc 1 (by omega)).trans h3⟩
  | true =>
    obtain ⟨h1, h2, _⟩ := h.last
    obtain ⟨cb, rb, cc, e1, e2, e3, a1, a2⟩ := h.cars rfl
    exact ⟨(hc 5 (by omega)).trans h1, (hc 0 (by omega)).trans h2, cb, rb, cc, (hc 19 (by omega)).trans e1, (ha cb a1 1).trans e2, (ha rb a2 11).trans e3⟩
end Go.Proofs.Ybulkexnkw
