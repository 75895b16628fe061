/-
  The loop that makes the chains: what stands behind k rounds.
-/
import Derived.Test.YbulkexnkwRk
import Derived.Maps.AppendAt
namespace Go.Proofs.Ybulkexnkw
open Go.RowKit

/-- The keys and the blocks of the first k chains of one kind. -/
def keysOf (gs : List Int) (cs : List Bool) (two : Bool) (k : Nat) : List Int := (idx cs two k).map (fun i => rk gs (i + 1))
def blksOf (cs : List Bool) (two : Bool) (blk : Nat → Nat) (k : Nat) : List Nat := (idx cs two k).map blk

/-- One kind's two rows. -/
structure Two (w : World) (base : Nat) (gs : List Int) (cs : List Bool) (two : Bool) (blk : Nat → Nat) (k : Nat) (kv vv : Value) : Prop where
  rk_ : w.ownsRow base 2 1 kv (idx cs two k).length (ints (keysOf gs cs two k))
  rv_ : w.ownsRow base 40 1 vv (idx cs two k).length (ptrs ((blksOf cs two blk k).map some))
  nk : (idx cs two k).length = 0 → kv = .slice none 0 0
  nv : (idx cs two k).length = 0 → vv = .slice none 0 0

theorem own_lt {w : World} {base t n : Nat} {v : Value} {vs : List Value} (h : w.ownsRow base t 1 v n vs) {b : Nat} (hb : v.ownBlock = some b) : base ≤ b ∧ b < w.heap.size := by
  obtain ⟨_, h2 | ⟨g, cap, cur, e, hg, hh, _⟩⟩ := h
  · rw [h2.1] at hb
    simp [Value.ownBlock] at hb
  · rw [e] at hb
    simp only [Value.ownBlock, Option.some.injEq] at hb
    subst hb
    exact ⟨hg, (Array.getElem?_eq_some_iff.1 hh).1⟩
/-- A row is kept where its block is. -/
theorem own_kept {w w' : World} {base t n : Nat} {v : Value} {vs : List Value} (h : w.ownsRow base t 1 v n vs) (hk : ∀ b, v.ownBlock = some b → w'.heap[b]? = w.heap[b]?) : w'.ownsRow base t 1 v n vs := by
  obtain ⟨h1, h2 | ⟨g, cap, cur, e, hg, hh, hr⟩⟩ := h
  · exact ⟨h1, Or.inl h2⟩
  · exact ⟨h1, Or.inr ⟨g, cap, cur, e, hg, (hk g (by rw [e]; rfl)).trans hh, hr⟩⟩
theorem Two.kept {w w' : World} {base : Nat} {gs : List Int} {cs : List Bool} {two : Bool} {blk : Nat → Nat} {k : Nat} {kv vv : Value} (h : Two w base gs cs two blk k kv vv)
    (hk : ∀ b, kv.ownBlock = some b ∨ vv.ownBlock = some b → w'.heap[b]? = w.heap[b]?) : Two w' base gs cs two blk k kv vv :=
  ⟨own_kept h.rk_ (fun b hb => hk b (Or.inl hb)), own_kept h.rv_ (fun b hb => hk b (Or.inr hb)), h.nk, h.nv⟩

theorem two_start (w : World) (base : Nat) (gs : List Int) (cs : List Bool) (two : Bool) (blk : Nat → Nat) : Two w base gs cs two blk 0 (.slice none 0 0) (.slice none 0 0) :=
  ⟨⟨rfl, Or.inl ⟨rfl, rfl⟩⟩, ⟨rfl, Or.inl ⟨rfl, rfl⟩⟩, fun _ => rfl, fun _ => rfl⟩

/-- The other kind's rows say the same behind a round. -/
theorem Two.skip {w : World} {base : Nat} {gs : List Int} {cs : List Bool} {two : Bool} {blk : Nat → Nat} {k : Nat} {kv vv : Value} (h : Two w base gs cs two blk k kv vv) (hc : cs.getD k false ≠ two) (nb : Nat) :
    Two w base gs cs two (fun j => if j = k then nb else blk j) (k + 1) kv vv := by
  have e : idx cs two (k + 1) = idx cs two k := by rw [idx_succ, if_neg (by simpa using hc), List.append_nil]
  have eb : (idx cs two k).map (fun j => if j = k then nb else blk j) = (idx cs two k).map blk := List.map_congr_left (fun j hj => by
    have := idx_lt hj
    rw [if_neg (by omega)])
  obtain ⟨a, b, c, d⟩ := h
  unfold keysOf at a
  unfold blksOf at b
  refine ⟨?_, ?_, ?_, ?_⟩
  · unfold keysOf
    rw [e]
    exact a
  · unfold blksOf
    rw [e, eb]
    exact b
  · rw [e]
    exact c
  · rw [e]
    exact d
/-- .. and this kind's rows one more. -/
theorem two_more {cs : List Bool} {two : Bool} {k : Nat} (hc : cs.getD k false = two) (gs : List Int) (blk : Nat → Nat) (nb : Nat) :
    (idx cs two (k + 1)).length = (idx cs two k).length + 1 ∧ keysOf gs cs two (k + 1) = keysOf gs cs two k ++ [rk gs (k + 1)] ∧ blksOf cs two (fun j => if j = k then nb else blk j) (k + 1) = blksOf cs two blk k ++ [nb] := by
  have e : idx cs two (k + 1) = idx cs two k ++ [k] := by rw [idx_succ, if_pos (by simpa using hc)]
  have eb : (idx cs two k).map (fun j => if j = k then nb else blk j) = (idx cs two k).map blk := List.map_congr_left (fun j hj => by
    have := idx_lt hj
    rw [if_neg (by omega)])
  refine ⟨by rw [e]; simp, by unfold keysOf; rw [e]; simp, ?_⟩
  unfold blksOf
  rw [e, List.map_append, eb]
  simp
end Go.Proofs.Ybulkexnkw
