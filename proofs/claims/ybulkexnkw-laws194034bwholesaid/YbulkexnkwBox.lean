/-
  The chains' struct in its new block; the places of later and earlier stores.
-/
import Derived.Test.YbulkexnkwPreT
namespace Go.Proofs.Ybulkexnkw
open Go.RowKit

/-- The places that the law has stored to ahead of store k. -/
def SD (z sh k : Nat) (b o : Nat) : Prop := (2 ≤ k ∧ b = sh ∧ 2 ≤ o ∧ o ≤ 5) ∨ (3 ≤ k ∧ b = sh ∧ 6 ≤ o ∧ o ≤ 9) ∨ (4 ≤ k ∧ b = sh ∧ 10 ≤ o ∧ o ≤ 13) ∨ (5 ≤ k ∧ b = z ∧ 2 ≤ o ∧ o ≤ 5)
theorem sd_row {z sh ch k b o : Nat} (h : b ≠ z ∧ b ≠ sh ∧ b ≠ ch) : ¬ SD z sh k b o := by unfold SD; omega
/-- .. from store k on. -/
def SL (z sh k : Nat) (b o : Nat) : Prop := (k ≤ 1 ∧ b = sh ∧ 2 ≤ o ∧ o ≤ 5) ∨ (k ≤ 2 ∧ b = sh ∧ 6 ≤ o ∧ o ≤ 9) ∨ (k ≤ 3 ∧ b = sh ∧ 10 ≤ o ∧ o ≤ 13) ∨ (k ≤ 4 ∧ b = z ∧ 2 ≤ o ∧ o ≤ 5)
theorem sl_row {z sh k b o : Nat} (h1 : b ≠ z) (h2 : b ≠ sh) : ¬ SL z sh k b o := by unfold SL; omega
theorem FrO.then {a b c : World} {S : Nat → Nat → Prop} (h : FrO a b S) (k : Below b.heap.size b c) : FrO a c S :=
  (h.trans (FrO.of_below k (fun _ _ => False))).mono (fun _ _ e => e.elim id False.elim)
theorem fresh_of {A C : Prop} {vs : List Value} (h : A ∨ (C ∧ vs = [])) (h0 : 0 < vs.length) : A := by
  rcases h with h | ⟨_, h⟩
  · exact h
  · subst h
    simp at h0
theorem fresh_or {A C : Prop} {vs : List Value} (h : A ∨ (C ∧ vs = [])) : A ∨ C := h.imp id And.left

theorem box_of (w : World) (O1 O2 O3 : Go.Obj) (cs : Array Value) (wT : World) (h : wT = (((w.alloc O1).alloc O2).alloc O3).alloc (.cells cs 79)) :
    Below w.heap.size w wT ∧ wT.heap.size = w.heap.size + 4 ∧ (∀ j, wT.cell? ⟨w.heap.size + 1 + 1 + 1, j, none⟩ = cs[j]?) ∧ ∀ o, wT.frozen? ⟨w.heap.size + 1 + 1 + 1, o, none⟩ = false := by
  have hs : (((w.alloc O1).alloc O2).alloc O3).heap.size = w.heap.size + 1 + 1 + 1 := by rw [size_alloc', size_alloc', size_alloc']
  have hh : wT.heap[w.heap.size + 1 + 1 + 1]? = some (.cells cs 79) := by
    rw [h, ← hs]
    exact heap_alloc_new _ _
  refine ⟨?_, by rw [h, size_alloc', hs], fun j => by simp [World.cell?, hh], fun o => by simp [World.frozen?, hh]⟩
  rw [h]
  exact ((((Below.refl _ w).alloc (Nat.le_refl _) O1).alloc (by rw [size_alloc']; omega) O2).alloc (by rw [size_alloc', size_alloc']; omega) O3).alloc (by rw [hs]; omega) _

theorem ord_of_cells {w' : World} {ob oo kb vb tb : Nat} {ks ts : List Int} {ps : List Nat} {k v t : Value} (e0 : w'.cell? ⟨ob, oo, none⟩ = some k) (e1 : w'.cell? ⟨ob, oo + 1, none⟩ = some v) (e2 : w'.cell? ⟨ob, oo + 2, none⟩ = some t) (e3 : w'.cell? ⟨ob, oo + 3, none⟩ = some (.int .i64 0))
    (ok : Own w' kb k (ints ks)) (ov : Own w' vb v (ptrs (ps.map some))) (ot : Own w' tb t (ints ts))
    (lk : ks.length = ps.length) (lt : ts.length = ps.length) (small : ps.length ≤ 5000) (pos : 0 < ps.length) (fz : ∀ o, w'.frozen? ⟨ob, o, none⟩ = false) (n1 : vb ≠ ob) (n2 : kb ≠ vb) (n3 : tb ≠ vb) (n4 : kb ≠ ob) (n5 : tb ≠ ob) :
    OrdAt w' ob oo kb vb tb ks ts ps := by
  obtain ⟨c1, h1, rfl⟩ := ok.slice (by rw [ints_len, lk]) pos
  obtain ⟨c2, h2, rfl⟩ := ov.slice (n := ps.length) (by rw [ptrs_len]; simp) pos
  obtain ⟨c3, h3, rfl⟩ := ot.slice (by rw [ints_len, lt]) pos
  exact ⟨lk, lt, small, pos, ⟨c1, h1, e0⟩, ⟨c2, h2, e1⟩, ⟨c3, h3, e2⟩, e3, fz, ov.fz (by rw [ptrs_len]; simpa using pos), ok.row, ot.row, ov.row, n1, n2, n3, n4, n5⟩
theorem Own.cap {w : World} {b n c : Nat} {vs : List Value} (h : Own w b (.slice (some ⟨b, 0, none⟩) n c) vs) : n ≤ c := by
  obtain ⟨a, c', e, hc, _⟩ := h.e
  injection e with _ e1 e2
  omega
end Go.Proofs.Ybulkexnkw
