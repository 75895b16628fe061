/-
  Ranks and indices of the law's chains: no Go in sight.
-/
import Derived.Test.YbulkexnkwSitE
namespace Go.Proofs.Ybulkexnkw
open Go.RowKit

/-- The rank behind k chains. -/
def rk (gs : List Int) : Nat → Int
  | 0 => 0
  | k + 1 => rk gs k + (1 + gs.getD k 0)
theorem rk_lt {gs : List Int} (h : ∀ g, g ∈ gs → 0 ≤ g) {i j : Nat} (hij : i < j) : rk gs i < rk gs j := by
  have hg : ∀ k, 0 ≤ gs.getD k 0 := fun k => by
    by_cases hk : k < gs.length
    · simp only [List.getD, List.getElem?_eq_getElem hk, Option.getD_some]
      exact h _ (List.getElem_mem hk)
    · simp [List.getD, List.getElem?_eq_none (Nat.le_of_not_lt hk)]
  induction j with
  | zero => omega
  | succ j ih =>
    have h1 : rk gs (j + 1) = rk gs j + (1 + gs.getD j 0) := rfl
    have h2 := hg j
    rcases Nat.lt_or_eq_of_le (Nat.le_of_lt_succ hij) with h3 | h3
    · have := ih h3
      omega
    · rw [h3]
      omega
theorem rk_le {gs : List Int} (h : ∀ g, g ∈ gs → g ≤ 255) (k : Nat) : rk gs k ≤ 256 * k := by
  induction k with
  | zero => simp [rk]
  | succ k ih =>
    have h1 : rk gs (k + 1) = rk gs k + (1 + gs.getD k 0) := rfl
    have h2 : gs.getD k 0 ≤ 255 := by
      by_cases hk : k < gs.length
      · simp only [List.getD, List.getElem?_eq_getElem hk, Option.getD_some]
        exact h _ (List.getElem_mem hk)
      · simp [List.getD, List.getElem?_eq_none (Nat.le_of_not_lt hk)]
    omega
theorem rk_nonneg {gs : List Int} (h : ∀ g, g ∈ gs → 0 ≤ g) (k : Nat) : 0 ≤ rk gs k := by
  rcases Nat.eq_zero_or_pos k with h0 | h0
  · subst h0
    exact Int.le_refl _
  · have := rk_lt h h0
    have e : rk gs 0 = 0 := rfl
    omega

/-- The first k chains' indices that are coupled (or single). -/
def idx (cs : List Bool) (two : Bool) (k : Nat) : List Nat := (List.range k).filter (fun i => cs.getD i false == two)
theorem idx_succ (cs : List Bool) (two : Bool) (k : Nat) : idx cs two (k + 1) = idx cs two k ++ (if cs.getD k false == two then [k] else []) := by
  unfold idx
  rw [List.range_succ, List.filter_append]
  congr 1
  by_cases h : (cs.getD k false == two) = true
  · rw [if_pos h, List.filter_cons_of_pos (by simpa using h)]
    rfl
  · rw [if_neg h, List.filter_cons_of_neg (by simpa using h)]
    rfl
theorem idx_lt {cs : List Bool} {two : Bool} {k i : Nat} (h : i ∈ idx cs two k) : i < k := by
  unfold idx at h
  rw [List.mem_filter, List.mem_range] at h
  exact h.1
theorem idx_len (cs : List Bool) (two : Bool) (k : Nat) : (idx cs two k).length ≤ k := by
  unfold idx
  exact Nat.le_trans (List.length_filter_le _ _) (by simp)
theorem idx_sorted (cs : List Bool) (two : Bool) (k : Nat) : (idx cs two k).Pairwise (· < ·) := by
  unfold idx
  exact List.Pairwise.filter _ (List.pairwise_lt_range)
theorem idx_split (cs : List Bool) (two : Bool) {p m : Nat} (hp : p < m) (ht : cs.getD p false = two) : ∃ r, idx cs two m = idx cs two p ++ p :: r := by
  induction m with
  | zero => omega
  | succ m ih =>
    rw [idx_succ]
    rcases Nat.lt_or_eq_of_le (Nat.le_of_lt_succ hp) with h | h
    · obtain ⟨r, hr⟩ := ih h
      rw [hr]
      exact ⟨r ++ (if cs.getD m false == two then [m] else []), by simp⟩
    · subst h
      rw [if_pos (by simpa using ht)]
      exact ⟨[], by simp⟩
theorem idx_at (cs : List Bool) (two : Bool) {p m : Nat} (hp : p < m) (ht : cs.getD p false = two) : (idx cs two p).length < (idx cs two m).length ∧ (idx cs two m).getD (idx cs two p).length 0 = p := by
  obtain ⟨r, hr⟩ := idx_split cs two hp ht
  rw [hr]
  simp [List.getD]
/-- The picked chain's seat in its queue. -/
theorem seat_q (w : World) (gs : List Int) (cs : List Bool) (two : Bool) (p m : Nat) (blk : Nat → Nat) (hp : p < m) (ht : cs.getD p false = two) (hg : ∀ g, g ∈ gs → 0 ≤ g)
    (hi : ∀ i j, i < j → j < m → blk i < blk j) (ho : ∀ j, j < m → Obj w (blk j)) :
    Seat w ((idx cs two m).map (fun i => rk gs (i + 1))) (List.replicate (idx cs two m).length 0) ((idx cs two m).map blk) (idx cs two p).length (blk p) (rk gs (p + 1)) 0 := by
  obtain ⟨hc, hcp⟩ := idx_at cs two hp ht
  have hs := List.pairwise_iff_getElem.1 (idx_sorted cs two m)
  have gk : ∀ j, (hj : j < (idx cs two m).length) → ((idx cs two m).map (fun i => rk gs (i + 1))).getD j 0 = rk gs ((idx cs two m)[j] + 1) := fun j hj => by simp [List.getD, hj]
  have gt : ∀ j, j < (idx cs two m).length → (List.replicate (idx cs two m).length (0 : Int)).getD j 0 = 0 := fun j hj => by simp [List.getD, hj]
  have gv : ∀ j, (hj : j < (idx cs two m).length) → ((idx cs two m).map blk).getD j 0 = blk (idx cs two m)[j] := fun j hj => by simp [List.getD, hj]
  have ec : (idx cs two m)[(idx cs two p).length] = p := by
    have h := hcp
    simp only [List.getD, List.getElem?_eq_getElem hc, Option.getD_some] at h
    exact h
  refine ⟨by simpa using hc, by rw [gv _ hc, ec], fun j hj hjc => ?_, fun j hj => ?_, fun j hj => ?_, fun j hcj hj => ?_⟩
  · rw [List.length_map] at hj
    rw [gv j hj]
    have lj : (idx cs two m)[j] < m := idx_lt (List.getElem_mem hj)
    rcases Nat.lt_or_gt_of_ne hjc with h | h
    · have h1 := hs j _ hj hc h
      rw [ec] at h1
      have := hi _ _ h1 hp
      omega
    · have h1 := hs _ j hc hj h
      rw [ec] at h1
      have := hi _ _ h1 lj
      omega
  · rw [List.length_map] at hj
    rw [gv j hj]
    exact ho _ (idx_lt (List.getElem_mem hj))
  · have hj' : j < (idx cs two m).length := by omega
    rw [gk j hj', gt j hj']
    unfold leq
    rcases Nat.lt_or_eq_of_le hj with h | h
    · have h1 := hs j _ hj' hc h
      rw [ec] at h1
      have := rk_lt hg (show (idx cs two m)[j] + 1 < p + 1 by omega)
      omega
    · subst h
      rw [ec]
      omega
  · rw [List.length_map] at hj
    rw [gk j hj, gt j hj]
    have h1 := hs _ j hc hj hcj
    rw [ec] at h1
    have := rk_lt hg (show p + 1 < (idx cs two m)[j] + 1 by omega)
    unfold leq
    omega

/-- The law's entries. -/
def entsOf (ls gs : List Int) (blk : Nat → Nat) (m : Nat) : List Ent := (List.range m).map (fun j => (ls.getD j 0, rk gs (j + 1), blk j))
theorem entsOf_len (ls gs : List Int) (blk : Nat → Nat) (m : Nat) : (entsOf ls gs blk m).length = m := by simp [entsOf]
theorem entsOf_get (ls gs : List Int) (blk : Nat → Nat) {m j : Nat} (hj : j < m) : (entsOf ls gs blk m).getD j (0, 0, 0) = (ls.getD j 0, rk gs (j + 1), blk j) := by simp [entsOf, List.getD, hj]
theorem entsOf_ties (ls : List Int) {gs : List Int} (blk : Nat → Nat) (m : Nat) (hg : ∀ g, g ∈ gs → 0 ≤ g) : ((entsOf ls gs blk m).map (fun e => e.2.1)).Nodup := by
  unfold entsOf
  rw [List.map_map]
  refine List.pairwise_map.2 ((List.pairwise_lt_range).imp ?_)
  intro a b h e
  have := rk_lt hg (show a + 1 < b + 1 by omega)
  simp only [Function.comp_apply] at e
  omega
theorem entsOf_blocks (ls gs : List Int) (blk : Nat → Nat) (m : Nat) (hi : ∀ i j, i < j → j < m → blk i < blk j) : ((entsOf ls gs blk m).map (fun e => e.2.2)).Nodup := by
  unfold entsOf
  rw [List.map_map]
  refine List.pairwise_map.2 (List.pairwise_iff_getElem.2 ?_)
  intro i j h1 h2 h e
  simp only [List.getElem_range, Function.comp_apply] at e
  have := hi i j h (by simpa using h2)
  omega
theorem entsOf_mem (ls gs : List Int) (blk : Nat → Nat) {m p : Nat} (hp : p < m) : (ls.getD p 0, rk gs (p + 1), blk p) ∈ entsOf ls gs blk m := by
  unfold entsOf
  exact List.mem_map.2 ⟨p, by simpa using hp, rfl⟩
theorem entsOf_obj {w : World} {ls gs : List Int} {blk : Nat → Nat} {m : Nat} (ho : ∀ j, j < m → Obj w (blk j)) : ∀ e, e ∈ entsOf ls gs blk m → Obj w e.2.2 := by
  intro e he
  unfold entsOf at he
  obtain ⟨j, hj, rfl⟩ := List.mem_map.1 he
  exact ho j (by simpa using hj)
end Go.Proofs.Ybulkexnkw
