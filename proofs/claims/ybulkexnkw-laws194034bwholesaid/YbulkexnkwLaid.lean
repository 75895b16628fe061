/-
  The loops that make the sizes and the shapes: their relation and its step.
-/
import Derived.Test.YbulkexnkwFill
namespace Go.Proofs.Ybulkexnkw
open Go.RowKit

/-- Behind k rounds: keys and new blocks in two rows. -/
structure Laid (w0 w : World) (kB vB n wid : Nat) (key : Nat → Int) (blk : Nat → Nat) (k : Nat) : Prop where
  fr : FrO w0 w (fun b _ => b = kB ∨ b = vB)
  ck : ∀ j, j < k → w.cell? ⟨kB, j, none⟩ = some (.int .i64 (key j))
  cv : ∀ j, j < k → w.cell? ⟨vB, j, none⟩ = some (.pointer (some ⟨blk j, 0, none⟩))
  xk : ∀ j, j < n → ∃ v, w.cell? ⟨kB, j, none⟩ = some v
  xv : ∀ j, j < n → ∃ v, w.cell? ⟨vB, j, none⟩ = some v
  inc : ∀ i j, i < j → j < k → blk i < blk j
  lo : ∀ j, j < k → w0.heap.size ≤ blk j ∧ blk j < w.heap.size
  obj : ∀ j, j < k → Obj w (blk j)
  c0 : ∀ j, j < k → w.cell? ⟨blk j, 0, none⟩ = some (.int .i64 (key j))
  cx : ∀ j, j < k → ∀ o, o < wid → ∃ v, w.cell? ⟨blk j, o, none⟩ = some v
  fz : ∀ j, j < k → ∀ o, w.frozen? ⟨blk j, o, none⟩ = false

theorem laid_start {w : World} {kB vB n wid : Nat} {key : Nat → Int} (xk : ∀ j, j < n → ∃ v, w.cell? ⟨kB, j, none⟩ = some v) (xv : ∀ j, j < n → ∃ v, w.cell? ⟨vB, j, none⟩ = some v) : Laid w w kB vB n wid key (fun _ => 0) 0 where
  fr := FrO.refl _ _
  ck := fun j hj => by omega
  cv := fun j hj => by omega
  xk := xk
  xv := xv
  inc := fun i j _ hj => by omega
  lo := fun j hj => by omega
  obj := fun j hj => by omega
  c0 := fun j hj => by omega
  cx := fun j hj => by omega
  fz := fun j hj => by omega

theorem Laid.step {w0 w : World} {kB vB n wid : Nat} {key : Nat → Int} {blk : Nat → Nat} {k : Nat} (h : Laid w0 w kB vB n wid key blk k) (hk : k < n) (hkB : kB < w0.heap.size) (hvB : vB < w0.heap.size) (nkv : kB ≠ vB) (cs : Array Value) (t : TypeId)
    (h0 : cs[0]? = some (.int .i64 (key k))) (hx : ∀ o, o < wid → ∃ v, cs[o]? = some v) :
    Laid w0 (((w.setCell ⟨kB, k, none⟩ (.int .i64 (key k))).alloc (.cells cs t)).setCell ⟨vB, k, none⟩ (.pointer (some ⟨w.heap.size, 0, none⟩))) kB vB n wid key (fun j => if j = k then w.heap.size else blk j) (k + 1) := by
  have s0 := h.fr.size
  obtain ⟨W1, e1⟩ : ∃ p, p = w.setCell ⟨kB, k, none⟩ (.int .i64 (key k)) := ⟨_, rfl⟩
  have F1 : FrO w W1 (fun b o => b = kB ∧ o = k) := by rw [e1]; exact FrO.setCell w kB k _
  have z1 : W1.heap.size = w.heap.size := by rw [e1]; exact World.size_setCell ..
  obtain ⟨W2, e2⟩ : ∃ p, p = W1.alloc (.cells cs t) := ⟨_, rfl⟩
  have B2 : Below W1.heap.size W1 W2 := by rw [e2]; exact (Below.refl _ _).alloc (Nat.le_refl _) _
  have n2 : W2.heap[w.heap.size]? = some (.cells cs t) := by rw [e2, ← z1]; exact heap_alloc_new W1 _
  have z2 : W2.heap.size = w.heap.size + 1 := by
    rw [e2, ← z1]
    show (W1.heap.push _).size = _
    simp
  rw [← e1, ← e2]
  have F2 : FrO w W2 (fun b o => b = kB ∧ o = k) := F1.then B2
  have c1 : ∀ j, j < n → W2.cell? ⟨kB, j, none⟩ = if j = k then some (.int .i64 (key k)) else w.cell? ⟨kB, j, none⟩ := fun j hj => by
    rw [B2.cell (by show kB < _; omega), e1, sc_at (h.xk k hk)]
    by_cases e : j = k
    · rw [if_pos ⟨rfl, e⟩, if_pos e]
    · rw [if_neg (fun h => e h.2), if_neg e]
  have xv2 : ∀ j, j < n → ∃ v, W2.cell? ⟨vB, j, none⟩ = some v := fun j hj => by
    obtain ⟨v, e⟩ := h.xv j hj
    exact ⟨v, F2.some e (fun e => nkv e.1.symm)⟩
  have xk2 : ∀ j, j < n → ∃ v, W2.cell? ⟨kB, j, none⟩ = some v := fun j hj => by
    rw [c1 j hj]
    by_cases e : j = k
    · rw [if_pos e]
      exact ⟨_, rfl⟩
    · rw [if_neg e]
      exact h.xk j hj
  obtain ⟨W3, e3⟩ : ∃ p, p = W2.setCell ⟨vB, k, none⟩ (.pointer (some ⟨w.heap.size, 0, none⟩)) := ⟨_, rfl⟩
  have F3 : FrO W2 W3 (fun b o => b = vB ∧ o = k) := by rw [e3]; exact FrO.setCell W2 vB k _
  have FF : FrO w W3 (fun b o => (b = kB ∧ o = k) ∨ (b = vB ∧ o = k)) := F2.trans F3
  have z3 := F3.size
  rw [← e3]
  have nw : W3.heap[w.heap.size]? = some (.cells cs t) := (F3.block _ (by omega) (fun o e => by omega)).trans n2
  have nc : ∀ o, W3.cell? ⟨w.heap.size, o, none⟩ = cs[o]? := fun o => by simp [World.cell?, nw]
  have oc : ∀ j o, j < k → W3.cell? ⟨blk j, o, none⟩ = w.cell? ⟨blk j, o, none⟩ := fun j o hj => by
    have := h.lo j hj
    exact FF.cell _ _ this.2 (fun e => by omega)
  refine ⟨(h.fr.trans FF).mono (fun b o e => by omega), fun j hj => ?_, fun j hj => ?_, fun j hj => ?_, fun j hj => ?_, fun i j hij hj => ?_, fun j hj => ?_, fun j hj => ?_, fun j hj => ?_, fun j hj => ?_, fun j hj => ?_⟩
  · rw [F3.cell kB j (by omega) (fun e => nkv e.1), c1 j (by omega)]
    by_cases e : j = k
    · rw [if_pos e, e]
    · rw [if_neg e]
      exact h.ck j (by omega)
  · rw [e3, sc_at (xv2 k hk)]
    by_cases e : j = k
    · rw [if_pos ⟨rfl, e⟩, if_pos e]
    · rw [if_neg (fun h => e h.2), if_neg e, F2.cell vB j (by omega) (fun e => nkv e.1.symm)]
      exact h.cv j (by omega)
  · rw [e3]
    exact sc_ex (xk2 j hj)
  · rw [e3]
    exact sc_ex (xv2 j hj)
  · by_cases e : j = k
    · have := (h.lo i (by omega)).2
      rw [if_neg (by omega), if_pos e]
      omega
    · rw [if_neg (by omega), if_neg e]
      exact h.inc i j hij (by omega)
  · by_cases e : j = k
    · rw [if_pos e]
      omega
    · rw [if_neg e]
      have := h.lo j (by omega)
      omega
  · by_cases e : j = k
    · rw [if_pos e]
      exact ⟨cs, t, nw⟩
    · rw [if_neg e]
      exact FF.obj _ (h.obj j (by omega))
  · by_cases e : j = k
    · rw [if_pos e, e, nc]
      exact h0
    · rw [if_neg e, oc j 0 (by omega)]
      exact h.c0 j (by omega)
  · intro o ho
    by_cases e : j = k
    · rw [if_pos e, nc]
      exact hx o ho
    · rw [if_neg e, oc j o (by omega)]
      exact h.cx j (by omega) o ho
  · intro o
    by_cases e : j = k
    · rw [if_pos e]
      simp [World.frozen?, nw]
    · rw [if_neg e]
      have := h.lo j (by omega)
      exact (FF.frozen _ _ this.2).trans (h.fz j (by omega) o)

/-- A seat among rising keys and rising blocks. -/
theorem seat_laid {w0 w : World} {kB vB n wid : Nat} {key : Nat → Int} {blk : Nat → Nat} (h : Laid w0 w kB vB n wid key blk n) (hr : ∀ i j, i < j → key i < key j) {a : Nat} (ha : a < n) :
    Seat w ((List.range n).map key) (List.replicate n 0) ((List.range n).map blk) a (blk a) (key a) 0 := by
  have gk : ∀ j, j < n → ((List.range n).map key).getD j 0 = key j := fun j hj => by simp [List.getD, hj]
  have gb : ∀ j, j < n → ((List.range n).map blk).getD j 0 = blk j := fun j hj => by simp [List.getD, hj]
  have gt : ∀ j, j < n → (List.replicate n (0 : Int)).getD j 0 = 0 := fun j hj => by simp [List.getD, hj]
  refine ⟨by simpa using ha, gb a ha, fun j hj hja => ?_, fun j hj => ?_, fun j hj => ?_, fun j hj hjn => ?_⟩
  · have hj' : j < n := by simpa using hj
    rw [gb j hj']
    rcases Nat.lt_or_gt_of_ne hja with e | e
    · have := h.inc j a e ha
      omega
    · have := h.inc a j e hj'
      omega
  · have hj' : j < n := by simpa using hj
    rw [gb j hj']
    exact h.obj j hj'
  · rw [gk j (by omega), gt j (by omega)]
    unfold leq
    rcases Nat.lt_or_eq_of_le hj with e | e
    · have := hr j a e
      omega
    · rw [e]
      omega
  · have hj' : j < n := by simpa using hjn
    rw [gk j hj', gt j hj']
    unfold leq
    have := hr a j hj
    omega
end Go.Proofs.Ybulkexnkw
