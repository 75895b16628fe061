/-
  The loop that fills the three rows.
-/
import Derived.Test.YbulkexnkwSitE
namespace Go.Proofs.Ybulkexnkw
open Go.RowKit Go.Sort

structure Fill (w2 wr : World) (kB tB vB : Nat) (es : List Ent) (k : Nat) : Prop where
  fr : FrO w2 wr (fun b _ => b = kB ∨ b = tB ∨ b = vB)
  ck : ∀ j, j < k → wr.cell? ⟨kB, j, none⟩ = some (.int .i64 (es.getD j (0, 0, 0)).1)
  ct : ∀ j, j < k → wr.cell? ⟨tB, j, none⟩ = some (.int .i64 (es.getD j (0, 0, 0)).2.1)
  cv : ∀ j, j < k → wr.cell? ⟨vB, j, none⟩ = some (.pointer (some ⟨(es.getD j (0, 0, 0)).2.2, 0, none⟩))
  xk : ∀ j, j < es.length → ∃ v, wr.cell? ⟨kB, j, none⟩ = some v
  xt : ∀ j, j < es.length → ∃ v, wr.cell? ⟨tB, j, none⟩ = some v
  xv : ∀ j, j < es.length → ∃ v, wr.cell? ⟨vB, j, none⟩ = some v

/-- A store into one of the three rows. -/
theorem sc_at {w : World} {b b' k j : Nat} {v : Value} (h : ∃ u, w.cell? ⟨b, k, none⟩ = some u) : (w.setCell ⟨b, k, none⟩ v).cell? ⟨b', j, none⟩ = if b' = b ∧ j = k then some v else w.cell? ⟨b', j, none⟩ := by
  obtain ⟨u, h⟩ := h
  by_cases e : b' = b ∧ j = k
  · obtain ⟨rfl, rfl⟩ := e
    rw [if_pos ⟨rfl, rfl⟩]
    exact sc_same h
  · rw [if_neg e]
    refine sc_other (fun h => e ?_)
    have h1 := congrArg Addr.block h
    have h2 := congrArg Addr.off h
    exact ⟨h1.symm, h2.symm⟩
theorem sc_ex {w : World} {b b' k j : Nat} {v : Value} (h : ∃ u, w.cell? ⟨b', j, none⟩ = some u) : ∃ u, (w.setCell ⟨b, k, none⟩ v).cell? ⟨b', j, none⟩ = some u := by
  by_cases e : b' = b ∧ j = k
  · obtain ⟨rfl, rfl⟩ := e
    obtain ⟨u, h⟩ := h
    exact ⟨v, sc_same h⟩
  · obtain ⟨u, h⟩ := h
    refine ⟨u, ?_⟩
    rw [← h]
    refine sc_other (fun h => e ?_)
    exact ⟨(congrArg Addr.block h).symm, (congrArg Addr.off h).symm⟩

theorem Fill.step {w2 wr : World} {kB tB vB k : Nat} {es : List Ent} (h : Fill w2 wr kB tB vB es k) (hk : k < es.length) (n1 : kB ≠ tB) (n2 : kB ≠ vB) (n3 : tB ≠ vB) (q : Nat) :
    Fill w2 ((((wr.setCell ⟨kB, k, none⟩ (.int .i64 (es.getD k (0, 0, 0)).1)).setCell ⟨tB, k, none⟩ (.int .i64 (es.getD k (0, 0, 0)).2.1)).setCell ⟨vB, k, none⟩ (.pointer (some ⟨(es.getD k (0, 0, 0)).2.2, 0, none⟩))).drewN q) kB tB vB es (k + 1) := by
  have x1 := h.xk k hk
  have x2 : ∃ u, (wr.setCell ⟨kB, k, none⟩ (.int .i64 (es.getD k (0, 0, 0)).1)).cell? ⟨tB, k, none⟩ = some u := sc_ex (h.xt k hk)
  have x3 : ∃ u, ((wr.setCell ⟨kB, k, none⟩ (.int .i64 (es.getD k (0, 0, 0)).1)).setCell ⟨tB, k, none⟩ (.int .i64 (es.getD k (0, 0, 0)).2.1)).cell? ⟨vB, k, none⟩ = some u := sc_ex (sc_ex (h.xv k hk))
  constructor
  · exact ((h.fr.trans (((FrO.setCell wr kB k _).trans (FrO.setCell _ tB k _)).trans (FrO.setCell _ vB k _))).mono (fun b o e => by omega)).drewN q
  · intro j hj
    show ((World.setCell _ _ _).setCell _ _).cell? _ = _
    rw [sc_at x3, if_neg (by omega), sc_at x2, if_neg (by omega), sc_at x1]
    by_cases e : j = k
    · rw [if_pos ⟨rfl, e⟩, e]
    · rw [if_neg (by omega)]
      exact h.ck j (by omega)
  · intro j hj
    show ((World.setCell _ _ _).setCell _ _).cell? _ = _
    rw [sc_at x3, if_neg (by omega), sc_at x2]
    by_cases e : j = k
    · rw [if_pos ⟨rfl, e⟩, e]
    · rw [if_neg (by omega), sc_at x1, if_neg (by omega)]
      exact h.ct j (by omega)
  · intro j hj
    show ((World.setCell _ _ _).setCell _ _).cell? _ = _
    rw [sc_at x3]
    by_cases e : j = k
    · rw [if_pos ⟨rfl, e⟩, e]
    · rw [if_neg (by omega), sc_at x2, if_neg (by omega), sc_at x1, if_neg (by omega)]
      exact h.cv j (by omega)
  · exact fun j hj => sc_ex (sc_ex (sc_ex (h.xk j hj)))
  · exact fun j hj => sc_ex (sc_ex (sc_ex (h.xt j hj)))
  · exact fun j hj => sc_ex (sc_ex (sc_ex (h.xv j hj)))
/-- The three rows, filled. -/
theorem Fill.owns {w2 wr : World} {kB tB vB m : Nat} {es : List Ent} (h : Fill w2 wr kB tB vB es m) (hl : es.length = m) (bk : kB < w2.heap.size) (bt : tB < w2.heap.size) (bv : vB < w2.heap.size)
    (fk : ∀ o, w2.frozen? ⟨kB, o, none⟩ = false) (ft : ∀ o, w2.frozen? ⟨tB, o, none⟩ = false) (fv : ∀ o, w2.frozen? ⟨vB, o, none⟩ = false) :
    Own wr kB (.slice (some ⟨kB, 0, none⟩) m m) (ints (es.map (fun e => e.1))) ∧ Own wr tB (.slice (some ⟨tB, 0, none⟩) m m) (ints (es.map (fun e => e.2.1))) ∧ Own wr vB (.slice (some ⟨vB, 0, none⟩) m m) (ptrs ((es.map (fun e => e.2.2)).map some)) := by
  refine ⟨⟨⟨_, m, by simp [ints, hl], by simp [ints, hl], Or.inr rfl⟩, fun j hj => ?_, Nat.lt_of_lt_of_le bk h.fr.size, fun _ o => (h.fr.frozen _ _ bk).trans (fk o)⟩,
    ⟨⟨_, m, by simp [ints, hl], by simp [ints, hl], Or.inr rfl⟩, fun j hj => ?_, Nat.lt_of_lt_of_le bt h.fr.size, fun _ o => (h.fr.frozen _ _ bt).trans (ft o)⟩,
    ⟨⟨_, m, by simp [ptrs, hl], by simp [ptrs, hl], Or.inr rfl⟩, fun j hj => ?_, Nat.lt_of_lt_of_le bv h.fr.size, fun _ o => (h.fr.frozen _ _ bv).trans (fv o)⟩⟩
  · have hj' : j < es.length := by simpa [ints] using hj
    rw [h.ck j (by omega)]
    simp [ints, List.getD, hj']
  · have hj' : j < es.length := by simpa [ints] using hj
    rw [h.ct j (by omega)]
    simp [ints, List.getD, hj']
  · have hj' : j < es.length := by simpa [ptrs] using hj
    rw [h.cv j (by omega)]
    simp [ptrs, pv, List.getD, hj']
end Go.Proofs.Ybulkexnkw
