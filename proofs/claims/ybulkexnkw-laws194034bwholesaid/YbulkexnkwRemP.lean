/-
  What 'ordered.remove' leaves behind, in plain words.
-/
import Derived.Test.YbulkexnkwFind
namespace Go.Proofs.Ybulkexnkw
open Go.RowKit
set_option linter.unusedVariables false

theorem sc_other {w : World} {a b : Addr} {v : Value} (h : a ≠ b) : (w.setCell a v).cell? b = w.cell? b := by
  first | exact World.cell?_setCell_other w a b v h | exact World.cell?_setCell_other w a v b h | exact World.cell?_setCell_other w h | exact World.cell?_setCell_other (w := w) h
theorem sc_same {w : World} {a : Addr} {v u : Value} (h : w.cell? a = some u) : (w.setCell a v).cell? a = some v := by
  first | exact World.cell?_setCell_same w a v h | exact World.cell?_setCell_same w h | exact World.cell?_setCell_same (w := w) h
/-- Some cells-block stays one under a store. -/
theorem obj_setCell {w : World} {p : Nat} (h : Obj w p) (a : Addr) (v : Value) : Obj (w.setCell a v) p := by
  obtain ⟨cs, t, e⟩ := h
  by_cases hp : p = a.block
  · rw [World.setCell]
    simp only [Obj]
    rw [Array.getElem?_modify, hp, if_pos rfl, ← hp, e]
    exact ⟨_, _, rfl⟩
  · exact ⟨cs, t, (heap_setCell_other w a p v hp).trans e⟩
theorem os_sc (w : World) (a : Addr) (v : Value) : (w.setCell a v).os = w.os := rfl
theorem tape_sc (w : World) (a : Addr) (v : Value) : (w.setCell a v).tape = w.tape := rfl
theorem output_sc (w : World) (a : Addr) (v : Value) : (w.setCell a v).output = w.output := rfl
theorem ne_off (b o o' : Nat) (h : o ≠ o') : (⟨b, o, none⟩ : Addr) ≠ ⟨b, o', none⟩ := fun e => h (congrArg Addr.off e)
theorem ne_blk (b b' o o' : Nat) (h : b ≠ b') : (⟨b, o, none⟩ : Addr) ≠ ⟨b', o', none⟩ := fun e => h (congrArg Addr.block e)

/-- What 'remove' leaves behind: the struct's four cells, the value's place, nothing else. -/
structure Removed (w w' : World) (ob oo vb i : Nat) (k v t : Value) (m : Int) : Prop where
  os : w'.os = w.os
  tape : w'.tape = w.tape
  output : w'.output = w.output
  size : w'.heap.size = w.heap.size
  c0 : w'.cell? ⟨ob, oo, none⟩ = some k
  c1 : w'.cell? ⟨ob, oo + 1, none⟩ = some v
  c2 : w'.cell? ⟨ob, oo + 2, none⟩ = some t
  c3 : w'.cell? ⟨ob, oo + 3, none⟩ = some (.int .i64 m)
  vi : w'.cell? ⟨vb, i, none⟩ = some (.pointer none)
  other : ∀ b o, (b ≠ vb ∨ o ≠ i) → (b ≠ ob ∨ o < oo ∨ oo + 3 < o) → w'.cell? ⟨b, o, none⟩ = w.cell? ⟨b, o, none⟩
  frozen : ∀ a, w'.frozen? a = w.frozen? a
  block : ∀ b, b ≠ vb → b ≠ ob → w'.heap[b]? = w.heap[b]?
  obj : ∀ b, Obj w b → Obj w' b

theorem Removed.drewN {w w' : World} {ob oo vb i : Nat} {k v t : Value} {m : Int} (h : Removed w w' ob oo vb i k v t m) (q : Nat) : Removed w (w'.drewN q) ob oo vb i k v t m :=
  ⟨h.os, h.tape, h.output, h.size, h.c0, h.c1, h.c2, h.c3, h.vi, h.other, h.frozen, h.block, h.obj⟩

theorem Removed.drew {w w' : World} {ob oo vb i : Nat} {k v t : Value} {m : Int} (h : Removed w w' ob oo vb i k v t m) : Removed w w'.drew ob oo vb i k v t m :=
  ⟨h.os, h.tape, h.output, h.size, h.c0, h.c1, h.c2, h.c3, h.vi, h.other, h.frozen, h.block, h.obj⟩

/-- The world behind the store of nil and the first count. -/
def W1 (w : World) (ob oo vb i : Nat) : World := (w.setCell ⟨vb, i, none⟩ (.pointer none)).setCell ⟨ob, oo + 3, none⟩ (.int .i64 1)
def W4 (w : World) (ob oo vb i : Nat) (k v t : Value) : World := ((((W1 w ob oo vb i).setCell ⟨ob, oo, none⟩ k).setCell ⟨ob, oo + 2, none⟩ t).setCell ⟨ob, oo + 1, none⟩ v).setCell ⟨ob, oo + 3, none⟩ (.int .i64 0)

theorem ex_one {w : World} {ob oo vb : Nat} (H : ∀ K V T, Removed w (W4 w ob oo vb 0 K V T) ob oo vb 0 K V T 0) (ak av at' : Option Addr) (ck cv ct : Nat) :
    ∃ ak' av' at'' ck' cv' ct', Removed w (W4 w ob oo vb 0 (.slice ak 0 ck) (.slice av 0 cv) (.slice at' 0 ct)).drew.drew ob oo vb 0 (.slice ak' 0 ck') (.slice av' 0 cv') (.slice at'' 0 ct') 0 :=
  ⟨ak, av, at', ck, cv, ct, (H _ _ _).drew.drew⟩

theorem cellW1_3 {w : World} {ob oo vb i : Nat} {u : Value} (hne : vb ≠ ob) (h : w.cell? ⟨ob, oo + 3, none⟩ = some u) : (W1 w ob oo vb i).cell? ⟨ob, oo + 3, none⟩ = some (.int .i64 1) :=
  sc_same (u := u) ((sc_other (ne_blk _ _ _ _ hne)).trans h)
theorem cellW1_o {w : World} {ob oo vb i b o : Nat} (h1 : b ≠ vb ∨ o ≠ i) (h2 : b ≠ ob ∨ o ≠ oo + 3) : (W1 w ob oo vb i).cell? ⟨b, o, none⟩ = w.cell? ⟨b, o, none⟩ := by
  unfold W1
  rw [sc_other, sc_other]
  · rcases h1 with h | h
    · exact ne_blk _ _ _ _ (fun e => h e.symm)
    · intro e; exact h (congrArg Addr.off e).symm
  · rcases h2 with h | h
    · exact ne_blk _ _ _ _ (fun e => h e.symm)
    · intro e; exact h (congrArg Addr.off e).symm
theorem cellW1_v {w : World} {ob oo vb i : Nat} {u : Value} (hne : vb ≠ ob) (h : w.cell? ⟨vb, i, none⟩ = some u) : (W1 w ob oo vb i).cell? ⟨vb, i, none⟩ = some (.pointer none) := by
  unfold W1
  rw [sc_other (ne_blk _ _ _ _ hne.symm)]
  exact sc_same h

theorem removed_W1 {w : World} {ob oo vb i : Nat} {k v t u x : Value} (hne : vb ≠ ob) (h0 : w.cell? ⟨ob, oo, none⟩ = some k) (h1 : w.cell? ⟨ob, oo + 1, none⟩ = some v) (h2 : w.cell? ⟨ob, oo + 2, none⟩ = some t) (h3 : w.cell? ⟨ob, oo + 3, none⟩ = some u) (hv : w.cell? ⟨vb, i, none⟩ = some x) :
    Removed w (W1 w ob oo vb i) ob oo vb i k v t 1 where
  os := by unfold W1; rw [os_sc, os_sc]
  tape := by unfold W1; rw [tape_sc, tape_sc]
  output := by unfold W1; rw [output_sc, output_sc]
  size := by unfold W1; rw [World.size_setCell, World.size_setCell]
  c0 := by rw [cellW1_o (Or.inl hne.symm) (Or.inr (by omega))]; exact h0
  c1 := by rw [cellW1_o (Or.inl hne.symm) (Or.inr (by omega))]; exact h1
  c2 := by rw [cellW1_o (Or.inl hne.symm) (Or.inr (by omega))]; exact h2
  c3 := cellW1_3 hne h3
  vi := cellW1_v hne hv
  other b o p q := cellW1_o p (q.imp id (fun h => by omega))
  frozen a := by simp [W1]
  block b p q := by
    unfold W1
    rw [heap_setCell_other _ _ _ _ (by simpa using q), heap_setCell_other _ _ _ _ (by simpa using p)]
  obj b h := by unfold W1; exact obj_setCell (obj_setCell h _ _) _ _

theorem removed_W4 {w : World} {ob oo vb i : Nat} {k v t k0 v0 t0 u x : Value} (hne : vb ≠ ob) (h0 : w.cell? ⟨ob, oo, none⟩ = some k0) (h1 : w.cell? ⟨ob, oo + 1, none⟩ = some v0) (h2 : w.cell? ⟨ob, oo + 2, none⟩ = some t0) (h3 : w.cell? ⟨ob, oo + 3, none⟩ = some u) (hv : w.cell? ⟨vb, i, none⟩ = some x) :
    Removed w (W4 w ob oo vb i k v t) ob oo vb i k v t 0 := by
  have r := removed_W1 (w := w) (i := i) hne h0 h1 h2 h3 hv
  refine ⟨by unfold W4; rw [os_sc, os_sc, os_sc, os_sc]; exact r.os, by unfold W4; rw [tape_sc, tape_sc, tape_sc, tape_sc]; exact r.tape, by unfold W4; rw [output_sc, output_sc, output_sc, output_sc]; exact r.output, by unfold W4; rw [World.size_setCell, World.size_setCell, World.size_setCell, World.size_setCell]; exact r.size, ?_, ?_, ?_, ?_, ?_, ?_, ?_, ?_, ?_⟩
  · unfold W4
    rw [sc_other (ne_off _ _ _ (by omega)), sc_other (ne_off _ _ _ (by omega)), sc_other (ne_off _ _ _ (by omega))]
    exact sc_same r.c0
  · unfold W4
    rw [sc_other (ne_off _ _ _ (by omega))]
    refine sc_same (u := v0) ?_
    rw [sc_other (ne_off _ _ _ (by omega)), sc_other (ne_off _ _ _ (by omega))]
    exact r.c1
  · unfold W4
    rw [sc_other (ne_off _ _ _ (by omega)), sc_other (ne_off _ _ _ (by omega))]
    refine sc_same (u := t0) ?_
    rw [sc_other (ne_off _ _ _ (by omega))]
    exact r.c2
  · unfold W4
    refine sc_same (u := .int .i64 1) ?_
    rw [sc_other (ne_off _ _ _ (by omega)), sc_other (ne_off _ _ _ (by omega)), sc_other (ne_off _ _ _ (by omega))]
    exact r.c3
  · unfold W4
    rw [sc_other (ne_blk _ _ _ _ hne.symm), sc_other (ne_blk _ _ _ _ hne.symm), sc_other (ne_blk _ _ _ _ hne.symm), sc_other (ne_blk _ _ _ _ hne.symm)]
    exact r.vi
  · intro b o p q
    have hh : ∀ j, j ≤ 3 → (⟨ob, oo + j, none⟩ : Addr) ≠ ⟨b, o, none⟩ := by
      intro j hj e
      have e1 := congrArg Addr.block e
      have e2 := congrArg Addr.off e
      simp at e1 e2
      rcases q with q | q | q
      · exact q e1.symm
      · omega
      · omega
    unfold W4
    rw [sc_other (hh 3 (by omega)), sc_other (hh 1 (by omega)), sc_other (hh 2 (by omega)), sc_other (by simpa using hh 0 (by omega))]
    exact r.other b o p q
  · intro a; unfold W4; rw [World.frozen?_setCell, World.frozen?_setCell, World.frozen?_setCell, World.frozen?_setCell]; exact r.frozen a
  · intro b p q
    unfold W4
    rw [heap_setCell_other _ _ _ _ (by simpa using q), heap_setCell_other _ _ _ _ (by simpa using q), heap_setCell_other _ _ _ _ (by simpa using q), heap_setCell_other _ _ _ _ (by simpa using q)]
    exact r.block b p q
  · intro b h
    unfold W4
    exact obj_setCell (obj_setCell (obj_setCell (obj_setCell (r.obj b h) _ _) _ _) _ _) _ _

end Go.Proofs.Ybulkexnkw
