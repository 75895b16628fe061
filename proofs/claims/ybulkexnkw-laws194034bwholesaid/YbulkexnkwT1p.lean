/-
  The law's entries: in memory, sorted, and the chain's place among them.
-/
import Derived.Test.YbulkexnkwSort
import Derived.Test.YbulkexnkwBox
namespace Go.Proofs.Ybulkexnkw
open Go.RowKit Go.Sort

/-- The entries lie from the head of block b on. -/
def EntsAt (w : World) (b : Nat) (es : List Ent) : Prop := ∀ j, j < es.length → w.cell? ⟨b, j * 3, none⟩ = some (.int .i64 (es.getD j (0, 0, 0)).1) ∧ w.cell? ⟨b, j * 3 + 1, none⟩ = some (.int .i64 (es.getD j (0, 0, 0)).2.1) ∧ w.cell? ⟨b, j * 3 + 2, none⟩ = some (.pointer (some ⟨(es.getD j (0, 0, 0)).2.2, 0, none⟩))

theorem getD_nat {es : List Ent} {j : Nat} (h : j < es.length) : es.getD j (0, 0, 0) = es[j] := by simp [List.getD, h]

/-- The chain's seat in the sorted list. -/
theorem seat_sorted (w : World) (es es' : List Ent) (hp : es'.Perm es) (hs : ∀ i j, i < j → j < es'.length → ltOf cmpE (es'.getD j (0, 0, 0)) (es'.getD i (0, 0, 0)) = false)
    (ht : (es.map (fun e => e.2.1)).Nodup) (hb : (es.map (fun e => e.2.2)).Nodup) (ho : ∀ e, e ∈ es → Obj w e.2.2) (x r : Int) (ch : Nat) (hm : (x, r, ch) ∈ es) :
    ∃ c, Seat w (es'.map (fun e => e.1)) (es'.map (fun e => e.2.1)) (es'.map (fun e => e.2.2)) c ch x r := by
  have hm' : (x, r, ch) ∈ es' := hp.mem_iff.2 hm
  obtain ⟨c, hc, ec⟩ := List.getElem_of_mem hm'
  have ht' : (es'.map (fun e => e.2.1)).Nodup := (hp.map _).nodup_iff.2 ht
  have hb' : (es'.map (fun e => e.2.2)).Nodup := (hp.map _).nodup_iff.2 hb
  have g1 : ∀ j, j < es'.length → (es'.map (fun e => e.1)).getD j 0 = (es'.getD j (0, 0, 0)).1 := fun j hj => by simp [List.getD, hj]
  have g2 : ∀ j, j < es'.length → (es'.map (fun e => e.2.1)).getD j 0 = (es'.getD j (0, 0, 0)).2.1 := fun j hj => by simp [List.getD, hj]
  have g3 : ∀ j, j < es'.length → (es'.map (fun e => e.2.2)).getD j 0 = (es'.getD j (0, 0, 0)).2.2 := fun j hj => by simp [List.getD, hj]
  have gc : es'.getD c (0, 0, 0) = (x, r, ch) := by rw [getD_nat hc, ec]
  have ne : ∀ j, j < es'.length → j ≠ c → (es'.getD j (0, 0, 0)).2.1 ≠ r ∧ (es'.getD j (0, 0, 0)).2.2 ≠ ch := fun j hj hjc => by
    have a1 := List.pairwise_iff_getElem.1 ht'
    have a2 := List.pairwise_iff_getElem.1 hb'
    rw [getD_nat hj]
    have ec1 : es'[c].2.1 = r := by rw [ec]
    have ec2 : es'[c].2.2 = ch := by rw [ec]
    rcases Nat.lt_or_gt_of_ne hjc with h | h
    · have b1 := a1 j c (by simpa using hj) (by simpa using hc) h
      have b2 := a2 j c (by simpa using hj) (by simpa using hc) h
      simp only [List.getElem_map] at b1 b2
      exact ⟨fun e => b1 (e.trans ec1.symm), fun e => b2 (e.trans ec2.symm)⟩
    · have b1 := a1 c j (by simpa using hc) (by simpa using hj) h
      have b2 := a2 c j (by simpa using hc) (by simpa using hj) h
      simp only [List.getElem_map] at b1 b2
      exact ⟨fun e => b1 (ec1.trans e.symm), fun e => b2 (ec2.trans e.symm)⟩
  refine ⟨c, ⟨by simpa using hc, by rw [g3 c hc, gc], fun j hj hjc => ?_, fun j hj => ?_, fun j hj => ?_, fun j hcj hj => ?_⟩⟩
  · rw [List.length_map] at hj
    rw [g3 j hj]
    exact (ne j hj hjc).2
  · rw [List.length_map] at hj
    rw [g3 j hj, getD_nat hj]
    exact ho _ (hp.mem_iff.1 (List.getElem_mem hj))
  · have hj' : j < es'.length := by omega
    rw [g1 j hj', g2 j hj']
    unfold leq
    rcases Nat.lt_or_eq_of_le hj with h | h
    · have := hs j c h hc
      rw [gc, ltE] at this
      simp only [decide_eq_false_iff_not] at this
      omega
    · rw [h, gc]
      dsimp only
      omega
  · rw [List.length_map] at hj
    rw [g1 j hj, g2 j hj]
    have n1 := (ne j hj (by omega)).1
    have := hs c j hcj hj
    rw [gc, ltE] at this
    simp only [decide_eq_false_iff_not] at this
    unfold leq
    omega

theorem heap_sort (w : World) (b n : Nat) (d : Array Ent) (os : Array Go.Obj) (k : Nat) (hk : k < w.heap.size) : (sortWorldK encE 3 w b 0 n d os).heap[k]? = if b = k then w.heap[k]?.map (onCells (putCells id 0 (flatK encE 3 d))) else w.heap[k]? := by
  show ((w.heap.modify b (onCells (putCells id 0 (flatK encE 3 d)))) ++ os)[k]? = _
  rw [Array.getElem?_append_left (by simpa using hk), Array.getElem?_modify]
/-- What the sort leaves alone. -/
theorem frame_sort (w : World) (b n : Nat) (d : Array Ent) (os : Array Go.Obj) : FrO w (sortWorldK encE 3 w b 0 n d os) (fun k _ => k = b) where
  os := rfl
  tape := rfl
  output := rfl
  size := size_sortWorldK_c encE 3 w b 0 n d os
  cell k o hk hn := cell?_sortWorldK_other encE 3 w b 0 n d os ⟨k, o, none⟩ hn hk
  frozen k o hk := by
    have h := heap_sort w b n d os k hk
    by_cases e : b = k
    · rw [if_pos e] at h
      obtain ⟨ob, hob⟩ : ∃ ob, w.heap[k]? = some ob := ⟨_, Array.getElem?_eq_getElem hk⟩
      rw [hob] at h
      unfold World.frozen?
      rw [h, hob]
      cases ob <;> rfl
    · rw [if_neg e] at h
      exact World.frozen?_of_block (w := w) h
  block k hk hn := by
    rw [heap_sort w b n d os k hk, if_neg (fun e => hn 0 e.symm)]
  obj k hk := by
    have hl := obj_lt hk
    obtain ⟨cs, t, e⟩ := hk
    have h := heap_sort w b n d os k hl
    rw [e] at h
    by_cases e' : b = k
    · rw [if_pos e'] at h
      exact ⟨_, t, h⟩
    · rw [if_neg e'] at h
      exact ⟨cs, t, h⟩
theorem holds_of_ents {w : World} {b : Nat} {es : List Ent} (h : EntsAt w b es) (hf : ∀ o, w.frozen? ⟨b, o, none⟩ = false) : HoldsK encE 3 w b 0 es.toArray := by
  intro j hj
  have hj' : j < es.length * 3 := by simpa using hj
  refine ⟨?_, hf _⟩
  rw [get_flatK encE 3 es.toArray j (by simpa using hj')]
  obtain ⟨h0, h1, h2⟩ := h (j / 3) (by omega)
  have e : (es.toArray[j / 3]!) = es.getD (j / 3) (0, 0, 0) := by
    have : j / 3 < es.length := by omega
    simp [List.getD, this]
  rw [e, Nat.zero_add]
  have hm : j % 3 = 0 ∨ j % 3 = 1 ∨ j % 3 = 2 := by omega
  rcases hm with hm | hm | hm
  · rw [show j / 3 * 3 = j by omega] at h0
    rw [hm, h0]
    rfl
  · rw [show j / 3 * 3 + 1 = j by omega] at h1
    rw [hm, h1]
    rfl
  · rw [show j / 3 * 3 + 2 = j by omega] at h2
    rw [hm, h2]
    rfl
theorem ents_of_holds {w : World} {b : Nat} {d : Array Ent} (h : HoldsK encE 3 w b 0 d) : EntsAt w b d.toList := by
  intro j hj
  have hj' : j < d.size := by simpa using hj
  have e : d.toList.getD j (0, 0, 0) = d[j]! := by simp [List.getD, hj']
  have k : ∀ c, c < 3 → w.cell? ⟨b, j * 3 + c, none⟩ = some ((encE d[j]!)[c]!) := fun c hc => by
    have h1 := (h (j * 3 + c) (by simp; omega)).1
    rw [get_flatK encE 3 d _ (by omega), Nat.zero_add, show (j * 3 + c) / 3 = j by omega, show (j * 3 + c) % 3 = c by omega] at h1
    exact h1
  rw [e]
  exact ⟨k 0 (by omega), k 1 (by omega), k 2 (by omega)⟩
end Go.Proofs.Ybulkexnkw
