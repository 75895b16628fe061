/-
  A new chain: of one car, of two.
-/
import Derived.Test.YbulkexnkwStep
namespace Go.Proofs.Ybulkexnkw
open Go.RowKit

def chainCells (r sz : Int) : Array Value := #[.int .i64 0, .int .i64 0, .int .i64 r, .int .i64 sz, .int .i64 0, .int .i64 1, .int .i64 0, .bool false, .bool false, .int .i64 0, .int .i64 0, .int .i64 0, .int .i64 0, .pointer none, .int .i64 0, .int .i64 0, .int .i64 0, .slice none 0 0, .slice none 0 0, .slice none 0 0, .slice none 0 0, .pointer none, .pointer none, .int .u64 0, .int .u8 0, .int .u8 0, .int .u8 0, .int .u8 0, .int .u8 0, .int .u8 0, .int .u8 0, .int .u8 0]

theorem chain_new {wc W1 : World} {r sz : Int} (h : W1 = wc.alloc (.cells (chainCells r sz) 53)) :
    W1.heap.size = wc.heap.size + 1 ∧ Below wc.heap.size wc W1 ∧ W1.heap[wc.heap.size]? = some (.cells (chainCells r sz) 53) ∧ (∀ o, W1.cell? ⟨wc.heap.size, o, none⟩ = (chainCells r sz)[o]?) ∧ ∀ o, W1.frozen? ⟨wc.heap.size, o, none⟩ = false := by
  have e : W1.heap[wc.heap.size]? = some (.cells (chainCells r sz) 53) := by rw [h]; exact heap_alloc_new _ _
  exact ⟨by rw [h, size_alloc'], by rw [h]; exact below_alloc _ _, e, fun o => by simp [World.cell?, e], fun o => by simp [World.frozen?, e]⟩

theorem chain_one {wc W1 W5 : World} {r sz x : Int} {O1 O2 : Go.Obj} {v : Value} (h1 : W1 = wc.alloc (.cells (chainCells r sz) 53))
    (h5 : W5 = (((W1.setCell ⟨wc.heap.size, 0, none⟩ (.int .i64 x)).alloc O1).alloc O2).setCell ⟨wc.heap.size, 19, none⟩ v) :
    Below wc.heap.size wc W5 ∧ W5.heap.size = wc.heap.size + 3 ∧ Obj W5 wc.heap.size ∧ Picked W5 wc.heap.size wc.heap.size false x r sz (fun _ => .slice none 0 0) (fun _ => .slice none 0 0) := by
  obtain ⟨z1, b1, e1, c1, f1⟩ := chain_new h1
  have F2 : FrO W1 (W1.setCell ⟨wc.heap.size, 0, none⟩ (.int .i64 x)) (fun b o => b = wc.heap.size ∧ o = 0) := FrO.setCell W1 wc.heap.size 0 _
  have x2 : (W1.setCell ⟨wc.heap.size, 0, none⟩ (.int .i64 x)).cell? ⟨wc.heap.size, 0, none⟩ = some (.int .i64 x) := sc_same (c1 0)
  have z2 : (W1.setCell ⟨wc.heap.size, 0, none⟩ (.int .i64 x)).heap.size = wc.heap.size + 1 := by rw [World.size_setCell, z1]
  generalize W1.setCell ⟨wc.heap.size, 0, none⟩ (.int .i64 x) = W2 at h5 F2 x2 z2
  have F4 : FrO W2 ((W2.alloc O1).alloc O2) (fun _ _ => False) := (FrO.of_below (below_alloc _ _) _).then (below_alloc _ _)
  have z4 : ((W2.alloc O1).alloc O2).heap.size = wc.heap.size + 3 := by rw [size_alloc', size_alloc', z2]
  generalize (W2.alloc O1).alloc O2 = W4 at h5 F4 z4
  have F5 : FrO W4 W5 (fun b o => b = wc.heap.size ∧ o = 19) := by rw [h5]; exact FrO.setCell W4 wc.heap.size 19 _
  have z5 : W5.heap.size = wc.heap.size + 3 := by rw [h5, World.size_setCell, z4]
  have FF : FrO W1 W5 (fun b o => b = wc.heap.size ∧ (o = 0 ∨ o = 19)) := ((F2.trans F4).trans F5).mono (fun b o h => by rcases h with (h | h) | h <;> first | exact h.elim | omega)
  have k : ∀ o, o ≠ 0 → o ≠ 19 → W5.cell? ⟨wc.heap.size, o, none⟩ = (chainCells r sz)[o]? := fun o h0 h19 => (FF.cell _ _ (by omega) (fun h => by omega)).trans (c1 o)
  refine ⟨b1.trans (FF.below (by omega) (fun b o h => by omega)), z5, FF.obj _ ⟨_, _, e1⟩, ⟨⟨k 5 (by omega) (by omega), F5.some (F4.some x2 (fun h => h)) (by omega), k 1 (by omega) (by omega)⟩, k 2 (by omega) (by omega), k 3 (by omega) (by omega), (fun h => by cases h), fun o h1 h2 => ?_, fun o => (FF.frozen _ _ (by omega)).trans (f1 o), fun t => by simp [Value.ownBlock]⟩⟩
  rw [k o (by omega) (by omega)]
  exact ⟨_, Array.getElem?_eq_getElem (show o < 32 by omega)⟩

theorem chain_two {wc W1 W5 : World} {r sz x : Int} {O1 : Go.Obj} {rc : Array Value} {p1 : Value} {t1 t2 : TypeId} (h1 : W1 = wc.alloc (.cells (chainCells r sz) 53)) (hrc : rc[11]? = some (.int .i64 x))
    (h5 : W5 = ((((W1.setCell ⟨wc.heap.size, 5, none⟩ (.int .i64 2)).alloc O1).alloc (.cells rc t1)).alloc (.cells #[p1, .pointer (some ⟨wc.heap.size + 2, 0, none⟩)] t2)).setCell ⟨wc.heap.size, 19, none⟩ (.slice (some ⟨wc.heap.size + 3, 0, none⟩) 2 2)) :
    Below wc.heap.size wc W5 ∧ W5.heap.size = wc.heap.size + 4 ∧ Obj W5 wc.heap.size ∧ Picked W5 wc.heap.size wc.heap.size true x r sz (fun _ => .slice none 0 0) (fun _ => .slice none 0 0) := by
  obtain ⟨z1, b1, e1, c1, f1⟩ := chain_new h1
  have F2 : FrO W1 (W1.setCell ⟨wc.heap.size, 5, none⟩ (.int .i64 2)) (fun b o => b = wc.heap.size ∧ o = 5) := FrO.setCell W1 wc.heap.size 5 _
  have x2 : (W1.setCell ⟨wc.heap.size, 5, none⟩ (.int .i64 2)).cell? ⟨wc.heap.size, 5, none⟩ = some (.int .i64 2) := sc_same (c1 5)
  have z2 : (W1.setCell ⟨wc.heap.size, 5, none⟩ (.int .i64 2)).heap.size = wc.heap.size + 1 := by rw [World.size_setCell, z1]
  generalize W1.setCell ⟨wc.heap.size, 5, none⟩ (.int .i64 2) = W2 at h5 F2 x2 z2
  have F3 : FrO W2 (W2.alloc O1) (fun _ _ => False) := FrO.of_below (below_alloc _ _) _
  have z3 : (W2.alloc O1).heap.size = wc.heap.size + 2 := by rw [size_alloc', z2]
  generalize W2.alloc O1 = W3 at h5 F3 z3
  have F4 : FrO W3 (W3.alloc (.cells rc t1)) (fun _ _ => False) := FrO.of_below (below_alloc _ _) _
  have z4 : (W3.alloc (.cells rc t1)).heap.size = wc.heap.size + 3 := by rw [size_alloc', z3]
  have n4 : (W3.alloc (.cells rc t1)).heap[wc.heap.size + 2]? = some (.cells rc t1) := by rw [← z3]; exact heap_alloc_new _ _
  generalize W3.alloc (.cells rc t1) = W4 at h5 F4 z4 n4
  have F6 : FrO W4 (W4.alloc (.cells #[p1, .pointer (some ⟨wc.heap.size + 2, 0, none⟩)] t2)) (fun _ _ => False) := FrO.of_below (below_alloc _ _) _
  have z6 : (W4.alloc (.cells #[p1, .pointer (some ⟨wc.heap.size + 2, 0, none⟩)] t2)).heap.size = wc.heap.size + 4 := by rw [size_alloc', z4]
  have n6 : (W4.alloc (.cells #[p1, .pointer (some ⟨wc.heap.size + 2, 0, none⟩)] t2)).heap[wc.heap.size + 3]? = some (.cells #[p1, .pointer (some ⟨wc.heap.size + 2, 0, none⟩)] t2) := by rw [← z4]; exact heap_alloc_new _ _
  generalize W4.alloc (.cells #[p1, .pointer (some ⟨wc.heap.size + 2, 0, none⟩)] t2) = W6 at h5 F6 z6 n6
  have F5 : FrO W6 W5 (fun b o => b = wc.heap.size ∧ o = 19) := by rw [h5]; exact FrO.setCell W6 wc.heap.size 19 _
  have z5 : W5.heap.size = wc.heap.size + 4 := by rw [h5, World.size_setCell, z6]
  have F46 : FrO W4 W5 (fun b o => b = wc.heap.size ∧ o = 19) := (F6.trans F5).mono (fun b o h => by rcases h with h | h <;> first | exact h.elim | omega)
  have F25 : FrO W2 W5 (fun b o => b = wc.heap.size ∧ o = 19) := ((F3.trans F4).trans F46).mono (fun b o h => by rcases h with (h | h) | h <;> first | exact h.elim | omega)
  have FF : FrO W1 W5 (fun b o => b = wc.heap.size ∧ (o = 5 ∨ o = 19)) := (F2.trans F25).mono (fun b o h => by rcases h with h | h <;> first | exact h.elim | omega)
  have k : ∀ o, o ≠ 5 → o ≠ 19 → W5.cell? ⟨wc.heap.size, o, none⟩ = (chainCells r sz)[o]? := fun o h0 h19 => (FF.cell _ _ (by omega) (fun h => by omega)).trans (c1 o)
  have k19 : W5.cell? ⟨wc.heap.size, 19, none⟩ = some (.slice (some ⟨wc.heap.size + 3, 0, none⟩) 2 2) := by
    have e : W6.cell? ⟨wc.heap.size, 19, none⟩ = some (.slice none 0 0) := by
      refine F6.some (F4.some (F3.some (F2.some (c1 19) ?_) (fun h => h)) (fun h => h)) (fun h => h)
      omega
    rw [h5]
    exact sc_same e
  have kc : W5.cell? ⟨wc.heap.size + 3, 1, none⟩ = some (.pointer (some ⟨wc.heap.size + 2, 0, none⟩)) := F5.some (by simp [World.cell?, n6]) (by omega)
  have kr : W5.cell? ⟨wc.heap.size + 2, 11, none⟩ = some (.int .i64 x) := F46.some (by simp [World.cell?, n4, hrc]) (by omega)
  have no : ∀ t b, ((fun _ => .slice none 0 0 : Bool → Value) t).ownBlock ≠ some b := fun t b => by simp [Value.ownBlock]
  refine ⟨b1.trans (FF.below (by omega) (fun b o h => by omega)), z5, FF.obj _ ⟨_, _, e1⟩, ⟨⟨F25.some x2 (by omega), k 0 (by omega) (by omega), _, _, _, k19, kc, kr⟩, k 2 (by omega) (by omega), k 3 (by omega) (by omega),
    (fun _ => ⟨_, _, _, k19, kc, kr, ⟨by omega, by omega, fun t => ⟨no t _, no t _⟩⟩, ⟨by omega, by omega, fun t => ⟨no t _, no t _⟩⟩⟩), fun o h1 h2 => ?_, fun o => (FF.frozen _ _ (by omega)).trans (f1 o), fun t => ⟨no t _, no t _⟩⟩⟩
  rw [k o (by omega) (by omega)]
  exact ⟨_, Array.getElem?_eq_getElem (show o < 32 by omega)⟩
end Go.Proofs.Ybulkexnkw
