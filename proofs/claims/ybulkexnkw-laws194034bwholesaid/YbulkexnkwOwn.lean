/-
  Rows of their own, frames by cell, and a list's store.
-/
import Derived.Test.YbulkexnkwTl
import Derived.Test.YbulkexnkwClone
namespace Go.Proofs.Ybulkexnkw
open Go.RowKit

/-- A row of its own, from the head of block b on. -/
structure Own (w : World) (b : Nat) (v : Value) (vs : List Value) : Prop where
  e : ∃ a c, v = .slice a vs.length c ∧ vs.length ≤ c ∧ ((a = none ∧ c = 0) ∨ a = some ⟨b, 0, none⟩)
  row : RowAt w b vs
  bl : b < w.heap.size
  fz : 0 < vs.length → ∀ o, w.frozen? ⟨b, o, none⟩ = false

theorem own_of_row {w : World} {lo : Nat} {t : TypeId} {v : Value} {n : Nat} {vs : List Value} (h : w.ownsRow lo t 1 v n vs) (hv : v ≠ .slice none 0 0) : ∃ b, lo ≤ b ∧ Own w b v vs := by
  obtain ⟨h1, h2 | ⟨g, cap, cur, e, hg, hh, hn, hm, hc, ht⟩⟩ := h
  · exact absurd h2.1 hv
  · rw [Nat.mul_one] at h1 hc ht
    refine ⟨g, hg, ⟨⟨_, cap, by rw [e, h1], by omega, Or.inr rfl⟩, ?_, ?_, ?_⟩⟩
    · intro j hj
      subst ht
      rw [List.getElem?_take, if_pos (by omega)]
      simp [World.cell?, hh, Array.getElem?_toList]
    · exact (Array.getElem?_eq_some_iff.1 hh).1
    · intro _ o
      simp [World.frozen?, hh]

/-- Cells as they were, outside a set of places. -/
structure FrO (w w' : World) (S : Nat → Nat → Prop) : Prop where
  os : w'.os = w.os
  tape : w'.tape = w.tape
  output : w'.output = w.output
  size : w.heap.size ≤ w'.heap.size
  cell : ∀ b o, b < w.heap.size → ¬ S b o → w'.cell? ⟨b, o, none⟩ = w.cell? ⟨b, o, none⟩
  frozen : ∀ b o, b < w.heap.size → w'.frozen? ⟨b, o, none⟩ = w.frozen? ⟨b, o, none⟩
  block : ∀ b, b < w.heap.size → (∀ o, ¬ S b o) → w'.heap[b]? = w.heap[b]?
  obj : ∀ b, Obj w b → Obj w' b
theorem FrO.trans {w w' w'' : World} {S T : Nat → Nat → Prop} (h : FrO w w' S) (k : FrO w' w'' T) : FrO w w'' (fun b o => S b o ∨ T b o) :=
  ⟨k.os.trans h.os, k.tape.trans h.tape, k.output.trans h.output, Nat.le_trans h.size k.size,
   fun b o hb hn => (k.cell b o (Nat.lt_of_lt_of_le hb h.size) (fun e => hn (Or.inr e))).trans (h.cell b o hb (fun e => hn (Or.inl e))),
   fun b o hb => (k.frozen b o (Nat.lt_of_lt_of_le hb h.size)).trans (h.frozen b o hb),
   fun b hb hn => (k.block b (Nat.lt_of_lt_of_le hb h.size) (fun o e => hn o (Or.inr e))).trans (h.block b hb (fun o e => hn o (Or.inl e))),
   fun b hb => k.obj b (h.obj b hb)⟩
theorem FrO.mono {w w' : World} {S T : Nat → Nat → Prop} (h : FrO w w' S) (hs : ∀ b o, S b o → T b o) : FrO w w' T :=
  ⟨h.os, h.tape, h.output, h.size, fun b o hb hn => h.cell b o hb (fun e => hn (hs b o e)), h.frozen, fun b hb hn => h.block b hb (fun o e => hn o (hs b o e)), h.obj⟩
theorem FrO.refl (w : World) (S : Nat → Nat → Prop) : FrO w w S := ⟨rfl, rfl, rfl, Nat.le_refl _, fun _ _ _ _ => rfl, fun _ _ _ => rfl, fun _ _ _ => rfl, fun _ h => h⟩
theorem obj_of_heap {w w' : World} {b : Nat} (h : Obj w b) (e : w'.heap[b]? = w.heap[b]?) : Obj w' b := by
  unfold Obj at *
  rw [e]
  exact h
theorem obj_lt {w : World} {b : Nat} (h : Obj w b) : b < w.heap.size := by
  unfold Obj at h
  rcases Nat.lt_or_ge b w.heap.size with h' | h'
  · exact h'
  · simp [Array.getElem?_eq_none h'] at h
theorem FrO.of_below {w w' : World} (h : Below w.heap.size w w') (S : Nat → Nat → Prop) : FrO w w' S :=
  ⟨h.os, h.tape, h.output, h.size, fun _ _ hb _ => h.cell hb, fun _ _ hb => h.frozen hb, fun b hb _ => h.block b hb, fun b hb => obj_of_heap hb (h.block b (obj_lt hb))⟩
theorem FrO.setCell (w : World) (b o : Nat) (v : Value) : FrO w (w.setCell ⟨b, o, none⟩ v) (fun k o' => k = b ∧ o' = o) where
  os := rfl
  tape := rfl
  output := rfl
  size := by rw [World.size_setCell]; exact Nat.le_refl _
  cell k o' _ hn := by
    by_cases e : k = b
    · subst e
      exact sc_other (ne_off _ _ _ (fun e => hn ⟨rfl, e.symm⟩))
    · exact sc_other (ne_blk _ _ _ _ (fun e' => e e'.symm))
  frozen k o' _ := World.frozen?_setCell ..
  block k _ hn := heap_setCell_other _ _ _ _ (fun e => hn o ⟨e, rfl⟩)
  obj _ h := obj_setCell h _ _
theorem FrO.drewN {w w' : World} {S : Nat → Nat → Prop} (h : FrO w w' S) (q : Nat) : FrO w (w'.drewN q) S := ⟨h.os, h.tape, h.output, h.size, h.cell, h.frozen, h.block, h.obj⟩
theorem FrO.below {w w' : World} {S : Nat → Nat → Prop} (h : FrO w w' S) {B : Nat} (hB : B ≤ w.heap.size) (hs : ∀ b o, S b o → B ≤ b) : Below B w w' :=
  ⟨h.os, h.tape, h.output, h.size, fun k hk => h.block k (by omega) (fun o e => by have := hs k o e; omega)⟩
theorem FrO.some {w w' : World} {S : Nat → Nat → Prop} (h : FrO w w' S) {b o : Nat} {v : Value} (e : w.cell? ⟨b, o, none⟩ = some v) (hn : ¬ S b o) : w'.cell? ⟨b, o, none⟩ = some v := (h.cell b o (lt_of_cell e) hn).trans e
theorem Own.kept {w w' : World} {S : Nat → Nat → Prop} {b : Nat} {v : Value} {vs : List Value} (h : Own w b v vs) (f : FrO w w' S) (hn : ∀ o, ¬ S b o) : Own w' b v vs :=
  ⟨h.e, fun j hj => (f.cell b j h.bl (hn j)).trans (h.row j hj), Nat.lt_of_lt_of_le h.bl f.size, fun h0 o => (f.frozen b o h.bl).trans (h.fz h0 o)⟩
theorem OrdAt.keptO {w w' : World} {S : Nat → Nat → Prop} {ob oo kb vb tb : Nat} {ks ts : List Int} {ps : List Nat} (h : OrdAt w ob oo kb vb tb ks ts ps) (f : FrO w w' S)
    (hs : ∀ o, oo ≤ o → o ≤ oo + 3 → ¬ S ob o) (hk : ∀ o, ¬ S kb o) (hv : ∀ o, ¬ S vb o) (ht : ∀ o, ¬ S tb o) : OrdAt w' ob oo kb vb tb ks ts ps :=
  h.kept' (fun o h1 h2 => f.cell _ _ (lt_of_cell h.c3) (hs o h1 h2)) (fun o => f.cell _ _ h.kl (hk o)) (fun o => f.cell _ _ h.vl (hv o)) (fun o => f.cell _ _ h.tl (ht o)) (fun _ => f.frozen _ _ (lt_of_cell h.c3)) (fun _ => f.frozen _ _ h.vl)

/-- A list's head stored at (ob, oo). -/
structure Put (w w' : World) (ob oo : Nat) (k v t : Value) : Prop where
  c0 : w'.cell? ⟨ob, oo, none⟩ = some k
  c1 : w'.cell? ⟨ob, oo + 1, none⟩ = some v
  c2 : w'.cell? ⟨ob, oo + 2, none⟩ = some t
  c3 : w'.cell? ⟨ob, oo + 3, none⟩ = some (.int .i64 0)
  fr : FrO w w' (fun b o => b = ob ∧ oo ≤ o ∧ o ≤ oo + 3)

theorem Own.slice {w : World} {b n : Nat} {v : Value} {vs : List Value} (h : Own w b v vs) (hl : vs.length = n) (hn : 0 < n) : ∃ c, n ≤ c ∧ v = .slice (some ⟨b, 0, none⟩) n c := by
  obtain ⟨a, c, e, hc, h1 | h1⟩ := h.e
  · have := h1.2
    omega
  · subst h1
    exact ⟨c, by omega, by rw [e, hl]⟩
theorem ord_of_put {w w' : World} {ob oo kb vb tb : Nat} {ks ts : List Int} {ps : List Nat} {k v t : Value} (p : Put w w' ob oo k v t) (ok : Own w' kb k (ints ks)) (ov : Own w' vb v (ptrs (ps.map some))) (ot : Own w' tb t (ints ts))
    (lk : ks.length = ps.length) (lt : ts.length = ps.length) (small : ps.length ≤ 5000) (pos : 0 < ps.length) (fz : ∀ o, w'.frozen? ⟨ob, o, none⟩ = false) (n1 : vb ≠ ob) (n2 : kb ≠ vb) (n3 : tb ≠ vb) (n4 : kb ≠ ob) (n5 : tb ≠ ob) :
    OrdAt w' ob oo kb vb tb ks ts ps := by
  obtain ⟨c1, h1, rfl⟩ := ok.slice (by rw [ints_len, lk]) pos
  obtain ⟨c2, h2, rfl⟩ := ov.slice (n := ps.length) (by rw [ptrs_len]; simp) pos
  obtain ⟨c3, h3, rfl⟩ := ot.slice (by rw [ints_len, lt]) pos
  exact ⟨lk, lt, small, pos, ⟨c1, h1, p.c0⟩, ⟨c2, h2, p.c1⟩, ⟨c3, h3, p.c2⟩, p.c3, fz, ov.fz (by rw [ptrs_len]; simpa using pos), ok.row, ot.row, ov.row, n1, n2, n3, n4, n5⟩
theorem Own.vwB {w : World} {b : Nat} {v : Value} {vs : List Value} (h : Own w b v vs) : VwB w b v vs := by
  obtain ⟨a, c, e, hc, h1⟩ := h.e
  refine ⟨a, c, e, fun h0 => ?_⟩
  rcases h1 with h1 | h1
  · have := h1.2
    omega
  · exact ⟨0, h1, fun j hj => by rw [Nat.zero_add]; exact h.row j hj⟩
theorem left_of_put {w w' : World} {ob oo kb vb tb : Nat} {ks ts : List Int} {ps : List (Option Nat)} {k v t : Value} (p : Put w w' ob oo k v t) (ok : Own w' kb k (ints ks)) (ov : Own w' vb v (ptrs ps)) (ot : Own w' tb t (ints ts)) : OrdLeft w' ob oo kb vb tb ks ts ps 0 :=
  ⟨⟨k, p.c0, ok.vwB⟩, ⟨v, p.c1, ov.vwB⟩, ⟨t, p.c2, ot.vwB⟩, p.c3⟩
theorem clone7_any (b d : Nat) (v : Value) (vs : List Value) (W : World) (h : Own W b v vs) (hn : vs.length ≤ 1000000) (h1 : ∀ u ∈ vs, u.oneCell' = true) (hd : d < W.heap.size) :
    Calls Yba.prog 7 #[v] W fun e w' => ∃ v' b', e = .returned v' ∧ Own w' b' v' vs ∧ Below W.heap.size W w' ∧ (W.heap.size ≤ b' ∨ (b' = d ∧ vs = [])) := by
  obtain ⟨a, c, e, hc, ⟨ha, hz⟩ | ha⟩ := h.e
  · subst ha hz e
    have hv : vs = [] := List.eq_nil_of_length_eq_zero (by omega)
    subst hv
    refine (clone7_nil W).mono ?_
    rintro e w' ⟨rfl, rfl⟩
    exact ⟨_, d, rfl, ⟨⟨none, 0, rfl, Nat.le_refl _, Or.inl ⟨rfl, rfl⟩⟩, fun j hj => by simp at hj, hd, fun h0 => by simp at h0⟩, Below.refl _ _, Or.inr ⟨rfl, rfl⟩⟩
  · subst ha e
    refine (clone7_some ⟨b, 0, none⟩ vs.length c vs W rfl hn h1 (fun j u hj => ?_) (fun _ => h.bl)).mono ?_
    · rw [addr_add, h.row j (List.getElem?_eq_some_iff.1 hj).1, hj]
    · rintro e w' ⟨v', rfl, ho, hne, hb⟩
      obtain ⟨b', hb', hO⟩ := own_of_row ho hne
      exact ⟨v', b', rfl, hO, hb, Or.inl hb'⟩

theorem clone8_any (b d : Nat) (v : Value) (vs : List Value) (W : World) (h : Own W b v vs) (hn : vs.length ≤ 1000000) (h1 : ∀ u ∈ vs, u.oneCell' = true) (hd : d < W.heap.size) :
    Calls Yba.prog 8 #[v] W fun e w' => ∃ v' b', e = .returned v' ∧ Own w' b' v' vs ∧ Below W.heap.size W w' ∧ (W.heap.size ≤ b' ∨ (b' = d ∧ vs = [])) := by
  obtain ⟨a, c, e, hc, ⟨ha, hz⟩ | ha⟩ := h.e
  · subst ha hz e
    have hv : vs = [] := List.eq_nil_of_length_eq_zero (by omega)
    subst hv
    refine (clone8_nil W).mono ?_
    rintro e w' ⟨rfl, rfl⟩
    exact ⟨_, d, rfl, ⟨⟨none, 0, rfl, Nat.le_refl _, Or.inl ⟨rfl, rfl⟩⟩, fun j hj => by simp at hj, hd, fun h0 => by simp at h0⟩, Below.refl _ _, Or.inr ⟨rfl, rfl⟩⟩
  · subst ha e
    refine (clone8_some ⟨b, 0, none⟩ vs.length c vs W rfl hn h1 (fun j u hj => ?_) (fun _ => h.bl)).mono ?_
    · rw [addr_add, h.row j (List.getElem?_eq_some_iff.1 hj).1, hj]
    · rintro e w' ⟨v', rfl, ho, hne, hb⟩
      obtain ⟨b', hb', hO⟩ := own_of_row ho hne
      exact ⟨v', b', rfl, hO, hb, Or.inl hb'⟩

theorem clone9_any (b d : Nat) (v : Value) (vs : List Value) (W : World) (h : Own W b v vs) (hn : vs.length ≤ 1000000) (h1 : ∀ u ∈ vs, u.oneCell' = true) (hd : d < W.heap.size) :
    Calls Yba.prog 9 #[v] W fun e w' => ∃ v' b', e = .returned v' ∧ Own w' b' v' vs ∧ Below W.heap.size W w' ∧ (W.heap.size ≤ b' ∨ (b' = d ∧ vs = [])) := by
  obtain ⟨a, c, e, hc, ⟨ha, hz⟩ | ha⟩ := h.e
  · subst ha hz e
    have hv : vs = [] := List.eq_nil_of_length_eq_zero (by omega)
    subst hv
    refine (clone9_nil W).mono ?_
    rintro e w' ⟨rfl, rfl⟩
    exact ⟨_, d, rfl, ⟨⟨none, 0, rfl, Nat.le_refl _, Or.inl ⟨rfl, rfl⟩⟩, fun j hj => by simp at hj, hd, fun h0 => by simp at h0⟩, Below.refl _ _, Or.inr ⟨rfl, rfl⟩⟩
  · subst ha e
    refine (clone9_some ⟨b, 0, none⟩ vs.length c vs W rfl hn h1 (fun j u hj => ?_) (fun _ => h.bl)).mono ?_
    · rw [addr_add, h.row j (List.getElem?_eq_some_iff.1 hj).1, hj]
    · rintro e w' ⟨v', rfl, ho, hne, hb⟩
      obtain ⟨b', hb', hO⟩ := own_of_row ho hne
      exact ⟨v', b', rfl, hO, hb, Or.inl hb'⟩

theorem clone10_any (b d : Nat) (v : Value) (vs : List Value) (W : World) (h : Own W b v vs) (hn : vs.length ≤ 1000000) (h1 : ∀ u ∈ vs, u.oneCell' = true) (hd : d < W.heap.size) :
    Calls Yba.prog 10 #[v] W fun e w' => ∃ v' b', e = .returned v' ∧ Own w' b' v' vs ∧ Below W.heap.size W w' ∧ (W.heap.size ≤ b' ∨ (b' = d ∧ vs = [])) := by
  obtain ⟨a, c, e, hc, ⟨ha, hz⟩ | ha⟩ := h.e
  · subst ha hz e
    have hv : vs = [] := List.eq_nil_of_length_eq_zero (by omega)
    subst hv
    refine (clone10_nil W).mono ?_
    rintro e w' ⟨rfl, rfl⟩
    exact ⟨_, d, rfl, ⟨⟨none, 0, rfl, Nat.le_refl _, Or.inl ⟨rfl, rfl⟩⟩, fun j hj => by simp at hj, hd, fun h0 => by simp at h0⟩, Below.refl _ _, Or.inr ⟨rfl, rfl⟩⟩
  · subst ha e
    refine (clone10_some ⟨b, 0, none⟩ vs.length c vs W rfl hn h1 (fun j u hj => ?_) (fun _ => h.bl)).mono ?_
    · rw [addr_add, h.row j (List.getElem?_eq_some_iff.1 hj).1, hj]
    · rintro e w' ⟨v', rfl, ho, hne, hb⟩
      obtain ⟨b', hb', hO⟩ := own_of_row ho hne
      exact ⟨v', b', rfl, hO, hb, Or.inl hb'⟩

end Go.Proofs.Ybulkexnkw
