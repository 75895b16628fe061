/-
  The front's makes.
-/
import Derived.Test.YbulkexnkwMk
namespace Go.Proofs.Ybulkexnkw
open Go.RowKit

theorem make26 (w : World) (n : Nat) (hn : n ≤ 5000) : (Instr.makeSlice 26 (.int .i64 (n : Int)) (.int .i64 (n : Int))).run Yba.prog w = .ok (.slice (some ⟨w.heap.size, 0, none⟩) n n) (w.alloc (newRow' (.pointer none) n 27)) := by
  obtain ⟨i0, hi, hz0, hz1, hz2⟩ := info_parts Yba.info27
  have h := run_make (P := Yba.prog) w 26 27 i0 _ Yba.underlying26 hi hz0 .i64 .i64 n n (by omega) (Int.le_refl _) (by rw [hz2]; omega) (by omega)
  rw [hz1, Nat.mul_one] at h
  simpa [newRow'] using h
theorem make28 (w : World) (n : Nat) (hn : n ≤ 5000) : (Instr.makeSlice 28 (.int .i64 (n : Int)) (.int .i64 (n : Int))).run Yba.prog w = .ok (.slice (some ⟨w.heap.size, 0, none⟩) n n) (w.alloc (newRow' (.pointer none) n 33)) := by
  obtain ⟨i0, hi, hz0, hz1, hz2⟩ := info_parts Yba.info33
  have h := run_make (P := Yba.prog) w 28 33 i0 _ Yba.underlying28 hi hz0 .i64 .i64 n n (by omega) (Int.le_refl _) (by rw [hz2]; omega) (by omega)
  rw [hz1, Nat.mul_one] at h
  simpa [newRow'] using h
theorem Yba.info61 : (Yba.prog.info? 61).map (fun i => (i.zero, i.size, i.bytes)) = some (some (.agg #[.int .i64 0, .int .i64 0, .pointer none]), 3, 24) := by kernel_rfl
def entZ : Value := .agg #[.int .i64 0, .int .i64 0, .pointer none]
theorem make39 (w : World) (n : Nat) (hn : n ≤ 5000) : (Instr.makeSlice 39 (.int .i64 (n : Int)) (.int .i64 (n : Int))).run Yba.prog w = .ok (.slice (some ⟨w.heap.size, 0, none⟩) n n) (w.alloc (newRow' entZ (n * 3) 61)) := by
  obtain ⟨i0, hi, hz0, hz1, hz2⟩ := info_parts Yba.info61
  have h := run_make (P := Yba.prog) w 39 61 i0 _ Yba.underlying39 hi hz0 .i64 .i64 n n (by omega) (Int.le_refl _) (by rw [hz2]; omega) (by omega)
  rw [hz1] at h
  simpa [newRow', entZ] using h
theorem make39_at (w : World) (n : Nat) : (∀ o, (w.alloc (newRow' entZ n 61)).frozen? ⟨w.heap.size, o, none⟩ = false) ∧ ∀ o, o < n → ∃ v, (w.alloc (newRow' entZ n 61)).cell? ⟨w.heap.size, o, none⟩ = some v := by
  have h : (w.alloc (newRow' entZ n 61)).heap[w.heap.size]? = some (newRow' entZ n 61) := heap_alloc_new w _
  generalize w.alloc (newRow' entZ n 61) = W at h
  unfold newRow' at h
  refine ⟨fun o => by simp [World.frozen?, h], fun o ho => ⟨entZ.cells[o % entZ.cells.size]!, ?_⟩⟩
  simp [World.cell?, h, madeCells, ho]
end Go.Proofs.Ybulkexnkw
