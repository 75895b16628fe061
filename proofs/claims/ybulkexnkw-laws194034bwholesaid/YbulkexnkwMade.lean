/-
  The loop that makes the chains: its relation and its step.
-/
import Derived.Test.YbulkexnkwChains
namespace Go.Proofs.Ybulkexnkw
open Go.RowKit

/-- The picked chain, away from the rows that still grow. -/
structure Picked (w : World) (base ch : Nat) (two : Bool) (x r sz : Int) (kv vv : Bool → Value) : Prop where
  last : LastAt w ch two x
  rank : w.cell? ⟨ch, 2, none⟩ = some (.int .i64 r)
  size : w.cell? ⟨ch, 3, none⟩ = some (.int .i64 sz)
  cars : two = true → ∃ cb rb cc, w.cell? ⟨ch, 19, none⟩ = some (.slice (some ⟨cb, 0, none⟩) 2 cc) ∧ w.cell? ⟨cb, 1, none⟩ = some (.pointer (some ⟨rb, 0, none⟩)) ∧ w.cell? ⟨rb, 11, none⟩ = some (.int .i64 x) ∧ (base ≤ cb ∧ cb ≠ ch ∧ ∀ t, (kv t).ownBlock ≠ some cb ∧ (vv t).ownBlock ≠ some cb) ∧ (base ≤ rb ∧ rb ≠ ch ∧ ∀ t, (kv t).ownBlock ≠ some rb ∧ (vv t).ownBlock ≠ some rb)
  chc : ∀ o, 13 ≤ o → o ≤ 14 → ∃ v, w.cell? ⟨ch, o, none⟩ = some v
  fch : ∀ o, w.frozen? ⟨ch, o, none⟩ = false
  nr : ∀ t, (kv t).ownBlock ≠ some ch ∧ (vv t).ownBlock ≠ some ch

/-- Behind k rounds. -/
structure Made (w3 w : World) (eB m p : Nat) (ls gs : List Int) (cs : List Bool) (sz : Int) (blk : Nat → Nat) (k : Nat) (c : Value) (kv vv : Bool → Value) (q : Int) : Prop where
  fr : FrO w3 w (fun b _ => b = eB)
  ents : ∀ j, j < k → w.cell? ⟨eB, j * 3, none⟩ = some (.int .i64 (ls.getD j 0)) ∧ w.cell? ⟨eB, j * 3 + 1, none⟩ = some (.int .i64 (rk gs (j + 1))) ∧ w.cell? ⟨eB, j * 3 + 2, none⟩ = some (.pointer (some ⟨blk j, 0, none⟩))
  ex : ∀ o, o < m * 3 → ∃ v, w.cell? ⟨eB, o, none⟩ = some v
  inc : ∀ i j, i < j → j < k → blk i < blk j
  lo : ∀ j, j < k → w3.heap.size ≤ blk j ∧ blk j < w.heap.size
  obj : ∀ j, j < k → Obj w (blk j)
  nr : ∀ j, j < k → ∀ t, (kv t).ownBlock ≠ some (blk j) ∧ (vv t).ownBlock ≠ some (blk j)
  two : ∀ t, Two w w3.heap.size gs cs t blk k (kv t) (vv t)
  d1 : ∀ s t b, (kv s).ownBlock = some b → (vv t).ownBlock ≠ some b
  d2 : ∀ b, (kv false).ownBlock = some b → (kv true).ownBlock ≠ some b
  d3 : ∀ b, (vv false).ownBlock = some b → (vv true).ownBlock ≠ some b
  before : k ≤ p → c = .pointer none ∧ q = 0
  after : p < k → c = .pointer (some ⟨blk p, 0, none⟩) ∧ q = (idx cs (cs.getD p false) p).length ∧ Picked w w3.heap.size (blk p) (cs.getD p false) (ls.getD p 0) (rk gs (p + 1)) sz kv vv

/-- The picked chain stays as it is where its blocks stay. -/
theorem Picked.kept {w w' : World} {base ch : Nat} {two : Bool} {x r sz : Int} {kv vv kv' vv' : Bool → Value} (h : Picked w base ch two x r sz kv vv) (hb : ∀ b, base ≤ b → b < w.heap.size → (∀ t, (kv t).ownBlock ≠ some b ∧ (vv t).ownBlock ≠ some b) → w'.heap[b]? = w.heap[b]?) (hch : base ≤ ch)
    (hn : ∀ b, base ≤ b → b < w.heap.size → (∀ t, (kv t).ownBlock ≠ some b ∧ (vv t).ownBlock ≠ some b) → ∀ t, (kv' t).ownBlock ≠ some b ∧ (vv' t).ownBlock ≠ some b) : Picked w' base ch two x r sz kv' vv' := by
  have cl : ch < w.heap.size := lt_of_cell h.rank
  have e := hb ch hch cl h.nr
  have ce : ∀ o, w'.cell? ⟨ch, o, none⟩ = w.cell? ⟨ch, o, none⟩ := fun o => World.cell?_of_block (w := w) e
  refine ⟨?_, (ce 2).trans h.rank, (ce 3).trans h.size, ?_, ?_, fun o => (World.frozen?_of_block (w := w) e).trans (h.fch o), hn ch hch cl h.nr⟩
  · cases two with
    | false =>
      obtain ⟨a, b, c⟩ := h.last
      exact ⟨(ce 5).trans a, (ce 0).trans b, (ce 1).trans c⟩
    | true =>
      obtain ⟨a, b, _⟩ := h.last
      obtain ⟨cb, rb, cc, g1, g2, g3, ⟨a1, _, a2⟩, ⟨b1, _, b2⟩⟩ := h.cars rfl
      exact ⟨(ce 5).trans a, (ce 0).trans b, cb, rb, cc, (ce 19).trans g1, (World.cell?_of_block (w := w) (hb cb a1 (lt_of_cell g2) a2)).trans g2, (World.cell?_of_block (w := w) (hb rb b1 (lt_of_cell g3) b2)).trans g3⟩
  · intro ht
    obtain ⟨cb, rb, cc, g1, g2, g3, ⟨a1, a3, a2⟩, ⟨b1, b3, b2⟩⟩ := h.cars ht
    exact ⟨cb, rb, cc, (ce 19).trans g1, (World.cell?_of_block (w := w) (hb cb a1 (lt_of_cell g2) a2)).trans g2, (World.cell?_of_block (w := w) (hb rb b1 (lt_of_cell g3) b2)).trans g3, ⟨a1, a3, hn cb a1 (lt_of_cell g2) a2⟩, ⟨b1, b3, hn rb b1 (lt_of_cell g3) b2⟩⟩
  · intro o h1 h2
    obtain ⟨v, hv⟩ := h.chc o h1 h2
    exact ⟨v, (ce o).trans hv⟩
theorem Picked.mono {w : World} {base base' ch : Nat} {two : Bool} {x r sz : Int} {kv vv : Bool → Value} (h : Picked w base ch two x r sz kv vv) (hb : base' ≤ base) : Picked w base' ch two x r sz kv vv :=
  ⟨h.last, h.rank, h.size, fun ht => by
    obtain ⟨cb, rb, cc, g1, g2, g3, ⟨a1, a3⟩, ⟨b1, b3⟩⟩ := h.cars ht
    exact ⟨cb, rb, cc, g1, g2, g3, ⟨Nat.le_trans hb a1, a3⟩, ⟨Nat.le_trans hb b1, b3⟩⟩, h.chc, h.fch, h.nr⟩
end Go.Proofs.Ybulkexnkw
