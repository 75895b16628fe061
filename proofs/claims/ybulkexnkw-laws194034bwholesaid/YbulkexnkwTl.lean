/-
  Small laws for the last stretch of the law.
-/
import Derived.Test.YbulkexnkwPre
namespace Go.Proofs.Ybulkexnkw
open Go.RowKit

theorem row_int {w : World} {b : Nat} {xs : List Int} {j : Nat} (h : RowAt w b (ints xs)) (hj : j < xs.length) : w.cell? ⟨b, j, none⟩ = some (.int .i64 (xs.getD j 0)) := by
  rw [h j (by rw [ints_len]; exact hj)]
  simp [ints, hj, List.getD]
theorem eK_latest (xs : List Int) (m c : Nat) (h : xs.length = m + 2) (hc : c < m + 2) : (eK xs c).getLastD 0 = if c = m + 1 then xs.getD m 0 else xs.getD (m + 1) 0 := by
  unfold eK
  by_cases h0 : c = 0
  · subst h0
    rw [if_pos rfl, if_neg (by omega), List.getLastD_eq_getLast?, List.getLast?_eq_getElem?]
    simp [h, List.getD]
  · rw [if_neg h0]
    by_cases hl : c = m + 1
    · rw [if_pos (by omega), if_pos hl, List.getLastD_eq_getLast?, List.getLast?_eq_getElem?]
      subst hl
      simp [h, List.getD]
    · rw [if_neg (by omega), if_neg hl, List.getLastD_eq_getLast?, List.getLast?_eq_getElem?]
      simp [h, List.getD]

theorem eK_front (xs : List Int) (m c : Nat) (h : xs.length = m + 2) : (eK xs c).headD 0 = if c = 0 then xs.getD 1 0 else xs.getD 0 0 := by
  obtain ⟨a, b, r, rfl⟩ : ∃ a b r, xs = a :: b :: r := by
    match xs, h with
    | a :: b :: r, _ => exact ⟨a, b, r, rfl⟩
  unfold eK
  by_cases h0 : c = 0
  · simp [h0]
  · rw [if_neg h0, if_neg h0]
    obtain ⟨d, rfl⟩ : ∃ d, c = d + 1 := ⟨c - 1, by omega⟩
    split <;> simp
theorem row_len {w : World} {b : Nat} {vs : List Value} (h : RowAt w b vs) (h0 : 0 < vs.length) : b < w.heap.size :=
  lt_of_cell ((h 0 h0).trans (List.getElem?_eq_getElem h0))
theorem OrdAt.kl {w : World} {ob oo kb vb tb : Nat} {ks ts : List Int} {ps : List Nat} (h : OrdAt w ob oo kb vb tb ks ts ps) : kb < w.heap.size := row_len h.rk (by rw [ints_len, h.lk]; exact h.pos)
theorem OrdAt.tl {w : World} {ob oo kb vb tb : Nat} {ks ts : List Int} {ps : List Nat} (h : OrdAt w ob oo kb vb tb ks ts ps) : tb < w.heap.size := row_len h.rt (by rw [ints_len, h.lt]; exact h.pos)
theorem OrdAt.vl {w : World} {ob oo kb vb tb : Nat} {ks ts : List Int} {ps : List Nat} (h : OrdAt w ob oo kb vb tb ks ts ps) : vb < w.heap.size := row_len h.rv (by rw [ptrs_len]; simpa using h.pos)
end Go.Proofs.Ybulkexnkw
