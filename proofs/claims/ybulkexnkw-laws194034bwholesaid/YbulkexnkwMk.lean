/-
  The law's makes.
-/
import Derived.Test.YbulkexnkwOwn
import Derived.OwnWalk
namespace Go.Proofs.Ybulkexnkw
open Go.RowKit

/-- n new cells. -/
def newRow' (z : Value) (n : Nat) (t : TypeId) : Go.Obj := .cells (madeCells z.cells n) t

theorem make22 (w : World) (n : Nat) (hn : n ≤ 5000) : (Instr.makeSlice 22 (.int .i64 (n : Int)) (.int .i64 (n : Int))).run Yba.prog w = .ok (.slice (some ⟨w.heap.size, 0, none⟩) n n) (w.alloc (newRow' (.int .i64 0) n 2)) := by
  obtain ⟨i0, hi, hz0, hz1, hz2⟩ := info_parts Yba.info2
  have h := run_make (P := Yba.prog) w 22 2 i0 _ Yba.underlying22 hi hz0 .i64 .i64 n n (by omega) (Int.le_refl _) (by rw [hz2]; omega) (by omega)
  rw [hz1, Nat.mul_one] at h
  simpa [newRow'] using h
theorem make34 (w : World) (n : Nat) (hn : n ≤ 5000) : (Instr.makeSlice 34 (.int .i64 (n : Int)) (.int .i64 (n : Int))).run Yba.prog w = .ok (.slice (some ⟨w.heap.size, 0, none⟩) n n) (w.alloc (newRow' (.pointer none) n 40)) := by
  obtain ⟨i0, hi, hz0, hz1, hz2⟩ := info_parts Yba.info40
  have h := run_make (P := Yba.prog) w 34 40 i0 _ Yba.underlying34 hi hz0 .i64 .i64 n n (by omega) (Int.le_refl _) (by rw [hz2]; omega) (by omega)
  rw [hz1, Nat.mul_one] at h
  simpa [newRow'] using h
theorem size_alloc' (w : World) (o : Go.Obj) : (w.alloc o).heap.size = w.heap.size + 1 := by show (w.heap.push o).size = _; simp
theorem make_own (w : World) (z : Value) (n : Nat) (t : TypeId) (hz : z.cells = #[z]) : Own (w.alloc (newRow' z n t)) w.heap.size (.slice (some ⟨w.heap.size, 0, none⟩) n n) (List.replicate n z) where
  e := ⟨_, n, by rw [List.length_replicate], by rw [List.length_replicate]; exact Nat.le_refl _, Or.inr rfl⟩
  row j hj := by
    rw [List.length_replicate] at hj
    have h : (w.alloc (newRow' z n t)).heap[w.heap.size]? = some (newRow' z n t) := heap_alloc_new w _
    generalize w.alloc (newRow' z n t) = W at h
    unfold newRow' at h
    simp [World.cell?, h, madeCells, hz, hj, Nat.mod_one]
  bl := by rw [size_alloc']; omega
  fz _ o := by
    have h : (w.alloc (newRow' z n t)).heap[w.heap.size]? = some (newRow' z n t) := heap_alloc_new w _
    generalize w.alloc (newRow' z n t) = W at h
    unfold newRow' at h
    simp [World.frozen?, h]
theorem below_alloc (w : World) (o : Go.Obj) : Below w.heap.size w (w.alloc o) := (Below.refl _ _).alloc (Nat.le_refl _) o
end Go.Proofs.Ybulkexnkw
