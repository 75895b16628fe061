/-
  An 'ordered' list in memory, before and behind a removal, in plain words.
-/
import Derived.Test.YbulkexnkwSame
import Derived.Test.YbulkexnkwRemP
namespace Go.Proofs.Ybulkexnkw
open Go.RowKit

/-- The slice value v reads as vs, in block b where it has an element. -/
def VwB (w : World) (b : Nat) (v : Value) (vs : List Value) : Prop :=
  ∃ a c, v = .slice a vs.length c ∧ (0 < vs.length → ∃ o, a = some ⟨b, o, none⟩ ∧ ∀ j, j < vs.length → w.cell? ⟨b, o + j, none⟩ = vs[j]?)
theorem VwB.vw {w : World} {b : Nat} {v : Value} {vs : List Value} (h : VwB w b v vs) : Vw w v vs := by
  obtain ⟨a, c, e, H⟩ := h
  exact ⟨a, c, e, fun h0 => by obtain ⟨o, ea, hc⟩ := H h0; exact ⟨b, o, ea, hc⟩⟩
theorem VwB.kept {w w' : World} {b : Nat} {v : Value} {vs : List Value} (h : VwB w b v vs) (hc : 0 < vs.length → ∀ o, w'.cell? ⟨b, o, none⟩ = w.cell? ⟨b, o, none⟩) : VwB w' b v vs := by
  obtain ⟨a, c, e, H⟩ := h
  exact ⟨a, c, e, fun h0 => by obtain ⟨o, ea, hh⟩ := H h0; exact ⟨o, ea, fun j hj => (hc h0 _).trans (hh j hj)⟩⟩
theorem vwB_row {w : World} {b c n : Nat} {vs : List Value} (h : RowAt w b vs) (hl : vs.length = n) : VwB w b (.slice (some ⟨b, 0, none⟩) n c) vs :=
  ⟨_, c, by rw [hl], fun _ => ⟨0, rfl, fun j hj => by rw [Nat.zero_add]; exact h j hj⟩⟩
theorem vwB_drop {w : World} {b c n : Nat} {vs : List Value} (h : RowAt w b vs) (hl : vs.length = n + 1) : VwB w b (.slice (some ⟨b, 1, none⟩) n c) (vs.drop 1) :=
  ⟨_, c, by simp [hl], fun _ => ⟨1, rfl, fun j hj => by simp at hj; rw [h (1 + j) (by omega)]; simp [Nat.add_comm]⟩⟩
theorem vwB_take {w : World} {b c n : Nat} {vs : List Value} (h : RowAt w b vs) (hl : n ≤ vs.length) : VwB w b (.slice (some ⟨b, 0, none⟩) n c) (vs.take n) :=
  ⟨_, c, by simp; omega, fun _ => ⟨0, rfl, fun j hj => by
    have hj' : j < n := by simp at hj; omega
    rw [Nat.zero_add, h j (by omega), List.getElem?_take_of_lt hj']⟩⟩
theorem vwB_empty (w : World) (b : Nat) (a : Option Addr) (c : Nat) : VwB w b (.slice a 0 c) [] := ⟨a, c, rfl, fun h => by simp at h⟩

/-- The list as it lies before a removal: no marks, all values there. -/
structure OrdAt (w : World) (ob oo kb vb tb : Nat) (ks ts : List Int) (ps : List Nat) : Prop where
  lk : ks.length = ps.length
  lt : ts.length = ps.length
  small : ps.length ≤ 5000
  pos : 0 < ps.length
  c0 : ∃ c, ps.length ≤ c ∧ w.cell? ⟨ob, oo, none⟩ = some (.slice (some ⟨kb, 0, none⟩) ps.length c)
  c1 : ∃ c, ps.length ≤ c ∧ w.cell? ⟨ob, oo + 1, none⟩ = some (.slice (some ⟨vb, 0, none⟩) ps.length c)
  c2 : ∃ c, ps.length ≤ c ∧ w.cell? ⟨ob, oo + 2, none⟩ = some (.slice (some ⟨tb, 0, none⟩) ps.length c)
  c3 : w.cell? ⟨ob, oo + 3, none⟩ = some (.int .i64 0)
  fz : ∀ o, w.frozen? ⟨ob, o, none⟩ = false
  fv : ∀ o, w.frozen? ⟨vb, o, none⟩ = false
  rk : RowAt w kb (ints ks)
  rt : RowAt w tb (ints ts)
  rv : RowAt w vb (ptrs (ps.map some))
  n1 : vb ≠ ob
  n2 : kb ≠ vb
  n3 : tb ≠ vb
  n4 : kb ≠ ob
  n5 : tb ≠ ob

/-- The list as it lies behind a removal (or untouched). -/
structure OrdLeft (w : World) (ob oo kb vb tb : Nat) (ks ts : List Int) (ps : List (Option Nat)) (m : Int) : Prop where
  c0 : ∃ v, w.cell? ⟨ob, oo, none⟩ = some v ∧ VwB w kb v (ints ks)
  c1 : ∃ v, w.cell? ⟨ob, oo + 1, none⟩ = some v ∧ VwB w vb v (ptrs ps)
  c2 : ∃ v, w.cell? ⟨ob, oo + 2, none⟩ = some v ∧ VwB w tb v (ints ts)
  c3 : w.cell? ⟨ob, oo + 3, none⟩ = some (.int .i64 m)

/-- What is left alone by a removal from the list at (ob, oo) with its values in block vb. -/
structure Rem (w w' : World) (ob oo vb : Nat) : Prop where
  os : w'.os = w.os
  tape : w'.tape = w.tape
  output : w'.output = w.output
  size : w'.heap.size = w.heap.size
  other : ∀ b o, b ≠ vb → (b ≠ ob ∨ o < oo ∨ oo + 3 < o) → w'.cell? ⟨b, o, none⟩ = w.cell? ⟨b, o, none⟩
  frozen : ∀ a, w'.frozen? a = w.frozen? a
  block : ∀ b, b ≠ vb → b ≠ ob → w'.heap[b]? = w.heap[b]?
  obj : ∀ b, Obj w b → Obj w' b

theorem Removed.rem {w w' : World} {ob oo vb i : Nat} {k v t : Value} {m : Int} (h : Removed w w' ob oo vb i k v t m) : Rem w w' ob oo vb :=
  ⟨h.os, h.tape, h.output, h.size, fun b o hb ho => h.other b o (Or.inl hb) ho, h.frozen, h.block, h.obj⟩

/-- The keys behind a removal at place c; the values; the marks. -/
def eK (xs : List Int) (c : Nat) : List Int := if c = 0 then xs.drop 1 else if c + 1 = xs.length then xs.take c else xs
def eV (ps : List Nat) (c : Nat) : List (Option Nat) := if c = 0 then (ps.map some).drop 1 else if c + 1 = ps.length then (ps.map some).take c else (ps.map some).set c none
def eM (n c : Nat) : Int := if c = 0 ∨ c + 1 = n then 0 else 1

theorem RowAt.kept {w w' : World} {b : Nat} {vs : List Value} (h : RowAt w b vs) (hc : ∀ o, w'.cell? ⟨b, o, none⟩ = w.cell? ⟨b, o, none⟩) : RowAt w' b vs :=
  fun j hj => (hc j).trans (h j hj)

theorem OrdAt.kept {w w' : World} {ob oo kb vb tb : Nat} {ks ts : List Int} {ps : List Nat} (h : OrdAt w ob oo kb vb tb ks ts ps)
    (hs : ∀ o, oo ≤ o → o ≤ oo + 3 → w'.cell? ⟨ob, o, none⟩ = w.cell? ⟨ob, o, none⟩) (hk : ∀ o, w'.cell? ⟨kb, o, none⟩ = w.cell? ⟨kb, o, none⟩) (hv : ∀ o, w'.cell? ⟨vb, o, none⟩ = w.cell? ⟨vb, o, none⟩) (ht : ∀ o, w'.cell? ⟨tb, o, none⟩ = w.cell? ⟨tb, o, none⟩)
    (hf : ∀ a, w'.frozen? a = w.frozen? a) : OrdAt w' ob oo kb vb tb ks ts ps where
  lk := h.lk
  lt := h.lt
  small := h.small
  pos := h.pos
  c0 := by obtain ⟨c, hc, e⟩ := h.c0; exact ⟨c, hc, (hs oo (by omega) (by omega)).trans e⟩
  c1 := by obtain ⟨c, hc, e⟩ := h.c1; exact ⟨c, hc, (hs (oo + 1) (by omega) (by omega)).trans e⟩
  c2 := by obtain ⟨c, hc, e⟩ := h.c2; exact ⟨c, hc, (hs (oo + 2) (by omega) (by omega)).trans e⟩
  c3 := (hs (oo + 3) (by omega) (by omega)).trans h.c3
  fz o := (hf _).trans (h.fz o)
  fv o := (hf _).trans (h.fv o)
  rk := h.rk.kept hk
  rt := h.rt.kept ht
  rv := h.rv.kept hv
  n1 := h.n1
  n2 := h.n2
  n3 := h.n3
  n4 := h.n4
  n5 := h.n5

theorem OrdLeft.kept {w w' : World} {ob oo kb vb tb : Nat} {ks ts : List Int} {ps : List (Option Nat)} {m : Int} (h : OrdLeft w ob oo kb vb tb ks ts ps m)
    (hs : ∀ o, oo ≤ o → o ≤ oo + 3 → w'.cell? ⟨ob, o, none⟩ = w.cell? ⟨ob, o, none⟩) (hk : 0 < ks.length → ∀ o, w'.cell? ⟨kb, o, none⟩ = w.cell? ⟨kb, o, none⟩) (hv : 0 < ps.length → ∀ o, w'.cell? ⟨vb, o, none⟩ = w.cell? ⟨vb, o, none⟩) (ht : 0 < ts.length → ∀ o, w'.cell? ⟨tb, o, none⟩ = w.cell? ⟨tb, o, none⟩) :
    OrdLeft w' ob oo kb vb tb ks ts ps m where
  c0 := by obtain ⟨v, e, H⟩ := h.c0; exact ⟨v, (hs oo (by omega) (by omega)).trans e, H.kept (by rw [ints_len]; exact hk)⟩
  c1 := by obtain ⟨v, e, H⟩ := h.c1; exact ⟨v, (hs (oo + 1) (by omega) (by omega)).trans e, H.kept (by rw [ptrs_len]; exact hv)⟩
  c2 := by obtain ⟨v, e, H⟩ := h.c2; exact ⟨v, (hs (oo + 2) (by omega) (by omega)).trans e, H.kept (by rw [ints_len]; exact ht)⟩
  c3 := (hs (oo + 3) (by omega) (by omega)).trans h.c3

theorem OrdAt.left {w : World} {ob oo kb vb tb : Nat} {ks ts : List Int} {ps : List Nat} (h : OrdAt w ob oo kb vb tb ks ts ps) : OrdLeft w ob oo kb vb tb ks ts (ps.map some) 0 where
  c0 := by obtain ⟨c, hc, e⟩ := h.c0; exact ⟨_, e, vwB_row h.rk (by rw [ints_len, h.lk])⟩
  c1 := by obtain ⟨c, hc, e⟩ := h.c1; exact ⟨_, e, vwB_row h.rv (by rw [ptrs_len]; simp)⟩
  c2 := by obtain ⟨c, hc, e⟩ := h.c2; exact ⟨_, e, vwB_row h.rt (by rw [ints_len, h.lt])⟩
  c3 := h.c3

theorem OrdAt.val {w : World} {ob oo kb vb tb : Nat} {ks ts : List Int} {ps : List Nat} (h : OrdAt w ob oo kb vb tb ks ts ps) {j : Nat} (hj : j < ps.length) : w.cell? ⟨vb, j, none⟩ = some (.pointer (some ⟨ps.getD j 0, 0, none⟩)) := by
  rw [h.rv j (by rw [ptrs_len]; simpa using hj)]
  simp [ptrs, pv, hj, List.getD]
theorem OrdAt.nums {w : World} {ob oo kb vb tb : Nat} {ks ts : List Int} {ps : List Nat} (h : OrdAt w ob oo kb vb tb ks ts ps) : NumsAt w kb ps.length ks ∧ NumsAt w tb ps.length ts := by
  constructor
  · intro j hj
    rw [h.rk j (by rw [ints_len, h.lk]; exact hj)]
    simp [ints, List.getD, List.getElem?_eq_getElem (show j < ks.length by rw [h.lk]; exact hj)]
  · intro j hj
    rw [h.rt j (by rw [ints_len, h.lt]; exact hj)]
    simp [ints, List.getD, List.getElem?_eq_getElem (show j < ts.length by rw [h.lt]; exact hj)]

/-- From the exact removal to the list that is left. -/
theorem left_of_removed {w w' : World} {ob oo kb vb tb i : Nat} {ks ts : List Int} {ps : List Nat} {ks' ts' : List Int} {ps' : List (Option Nat)} {k v t : Value} {m : Int} (h : OrdAt w ob oo kb vb tb ks ts ps) (r : Removed w w' ob oo vb i k v t m)
    (hk : VwB w kb k (ints ks')) (ht : VwB w tb t (ints ts')) (hv : VwB w' vb v (ptrs ps')) : OrdLeft w' ob oo kb vb tb ks' ts' ps' m :=
  ⟨⟨k, r.c0, hk.kept fun _ _ => r.other _ _ (Or.inl h.n2) (Or.inl h.n4)⟩, ⟨v, r.c1, hv⟩, ⟨t, r.c2, ht.kept fun _ _ => r.other _ _ (Or.inl h.n3) (Or.inl h.n5)⟩, r.c3⟩

theorem row_removed {w w' : World} {ob oo kb vb tb i : Nat} {ks ts : List Int} {ps : List Nat} {k v t : Value} {m : Int} (h : OrdAt w ob oo kb vb tb ks ts ps) (r : Removed w w' ob oo vb i k v t m) (hi : i < ps.length) : RowAt w' vb (ptrs ((ps.map some).set i none)) := by
  intro j hj
  rw [ptrs_len, List.length_set, List.length_map] at hj
  by_cases e : j = i
  · subst e
    rw [r.vi]; simp [ptrs, pv, hj]
  · rw [r.other _ _ (Or.inr e) (Or.inl h.n1), h.rv j (by rw [ptrs_len]; simpa using hj)]
    simp [ptrs, Ne.symm e]
end Go.Proofs.Ybulkexnkw
