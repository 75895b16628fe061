/-
  The law's own checks: 'after' and 'same' (each by program out of one text).
-/
import Derived.Test.YbulkexnkwClone
namespace Go.Proofs.Ybulkexnkw
open Go.RowKit
set_option linter.unusedVariables false

def ints (xs : List Int) : List Value := xs.map (Value.int .i64)
def ptrs (xs : List (Option Nat)) : List Value := xs.map pv
theorem ints_len (xs : List Int) : (ints xs).length = xs.length := by simp [ints]
theorem ptrs_len (xs : List (Option Nat)) : (ptrs xs).length = xs.length := by simp [ptrs]
/-- A row from the head of a block on. -/
def RowAt (w : World) (b : Nat) (vs : List Value) : Prop := ∀ j, j < vs.length → w.cell? ⟨b, j, none⟩ = vs[j]?
theorem vw_row {w : World} {b c : Nat} {vs : List Value} (h : RowAt w b vs) : Vw w (.slice (some ⟨b, 0, none⟩) vs.length c) vs :=
  ⟨_, c, rfl, fun _ => ⟨b, 0, rfl, fun j hj => by rw [Nat.zero_add]; exact h j hj⟩⟩
theorem vw_empty (w : World) (a : Option Addr) (c : Nat) : Vw w (.slice a 0 c) [] := ⟨a, c, rfl, fun h => by simp at h⟩
theorem vw_drop {w : World} {b c : Nat} {vs : List Value} (h : RowAt w b vs) (hl : 0 < vs.length) : Vw w (.slice (some ⟨b, 1, none⟩) (vs.length - 1) c) (vs.drop 1) :=
  ⟨_, c, by simp, fun _ => ⟨b, 1, rfl, fun j hj => by simp at hj; rw [h (1 + j) (by omega)]; simp [Nat.add_comm]⟩⟩
theorem vw_take {w : World} {b c : Nat} {vs : List Value} (h : RowAt w b vs) (hl : 0 < vs.length) : Vw w (.slice (some ⟨b, 0, none⟩) (vs.length - 1) c) (vs.take (vs.length - 1)) :=
  ⟨_, c, by simp, fun _ => ⟨b, 0, rfl, fun j hj => by
    have hj' : j < vs.length - 1 := by simpa using hj
    rw [Nat.zero_add, h j (by omega), List.getElem?_take_of_lt hj']⟩⟩
theorem ints_drop (xs : List Int) : (ints xs).drop 1 = ints (xs.drop 1) := by simp [ints]
theorem ptrs_drop (xs : List (Option Nat)) : (ptrs xs).drop 1 = ptrs (xs.drop 1) := by simp [ptrs]
theorem ints_take (xs : List Int) (n : Nat) : (ints xs).take n = ints (xs.take n) := by simp [ints, List.map_take]
theorem ptrs_take (xs : List (Option Nat)) (n : Nat) : (ptrs xs).take n = ptrs (xs.take n) := by simp [ptrs, List.map_take]
theorem vw_drop_ints {w : World} {b m : Nat} {xs : List Int} (h : RowAt w b (ints xs)) (hl : xs.length = m + 2) (c : Nat) : Vw w (.slice (some ⟨b, 1, none⟩) (m + 1) c) (ints (xs.drop 1)) := by
  have := vw_drop (c := c) h (by rw [ints_len]; omega)
  rw [ints_len, hl, ints_drop] at this; exact this
theorem vw_drop_ptrs {w : World} {b m : Nat} {xs : List (Option Nat)} (h : RowAt w b (ptrs xs)) (hl : xs.length = m + 2) (c : Nat) : Vw w (.slice (some ⟨b, 1, none⟩) (m + 1) c) (ptrs (xs.drop 1)) := by
  have := vw_drop (c := c) h (by rw [ptrs_len]; omega)
  rw [ptrs_len, hl, ptrs_drop] at this; exact this
theorem vw_take_ints {w : World} {b m : Nat} {xs : List Int} (h : RowAt w b (ints xs)) (hl : xs.length = m + 2) (c : Nat) : Vw w (.slice (some ⟨b, 0, none⟩) (m + 1) c) (ints (xs.take (m + 1))) := by
  have := vw_take (c := c) h (by rw [ints_len]; omega)
  rw [ints_len, hl, ints_take] at this; exact this
theorem vw_take_ptrs {w : World} {b m : Nat} {xs : List (Option Nat)} (h : RowAt w b (ptrs xs)) (hl : xs.length = m + 2) (c : Nat) : Vw w (.slice (some ⟨b, 0, none⟩) (m + 1) c) (ptrs (xs.take (m + 1))) := by
  have := vw_take (c := c) h (by rw [ptrs_len]; omega)
  rw [ptrs_len, hl, ptrs_take] at this; exact this
theorem vw_ints {w : World} {b n : Nat} {xs : List Int} (h : RowAt w b (ints xs)) (hl : xs.length = n) (c : Nat) : Vw w (.slice (some ⟨b, 0, none⟩) n c) (ints xs) := by
  have := vw_row (c := c) h
  rw [ints_len, hl] at this; exact this
theorem vw_ptrs {w : World} {b n : Nat} {xs : List (Option Nat)} (h : RowAt w b (ptrs xs)) (hl : xs.length = n) (c : Nat) : Vw w (.slice (some ⟨b, 0, none⟩) n c) (ptrs xs) := by
  have := vw_row (c := c) h
  rw [ptrs_len, hl] at this; exact this
theorem lt_of_cell {w : World} {a : Addr} {v : Value} (h : w.cell? a = some v) : a.block < w.heap.size := by
  rcases Nat.lt_or_ge a.block w.heap.size with h' | h'
  · exact h'
  · simp [World.cell?, Array.getElem?_eq_none h'] at h
/-- What reads stays readable where the old cells stay. -/
theorem vw_below {w w' : World} {v : Value} {vs : List Value} (h : Vw w v vs) (hb : ∀ a : Addr, a.block < w.heap.size → w'.cell? a = w.cell? a) : Vw w' v vs := by
  obtain ⟨a, c, e, H⟩ := h
  refine ⟨a, c, e, fun h0 => ?_⟩
  obtain ⟨b, o, ea, hc⟩ := H h0
  refine ⟨b, o, ea, fun j hj => ?_⟩
  have h1 := hc j hj
  rw [hb ⟨b, o + j, none⟩ (lt_of_cell (h1.trans (List.getElem?_eq_getElem hj)))]
  exact h1
theorem row_below {w w' : World} {b : Nat} {vs : List Value} (h : RowAt w b vs) (hb : ∀ a : Addr, a.block < w.heap.size → w'.cell? a = w.cell? a) : RowAt w' b vs := by
  intro j hj
  have h1 := h j hj
  rw [hb ⟨b, j, none⟩ (lt_of_cell (h1.trans (List.getElem?_eq_getElem hj)))]
  exact h1
theorem below_drewN (w : World) (q : Nat) : Below w.heap.size w (w.drewN q) := ⟨rfl, rfl, rfl, Nat.le_refl _, fun _ _ => rfl⟩
theorem ptrs_one (xs : List (Option Nat)) : ∀ u ∈ ptrs xs, u.oneCell' = true := by
  intro u hu; obtain ⟨x, _, rfl⟩ := List.mem_map.1 hu; cases x <;> rfl
theorem ints_one (xs : List Int) : ∀ u ∈ ints xs, u.oneCell' = true := by
  intro u hu; obtain ⟨x, _, rfl⟩ := List.mem_map.1 hu; rfl
theorem addr_add (b j : Nat) : (⟨b, 0, none⟩ : Addr).add j = ⟨b, j, none⟩ := by
  unfold Addr.add
  split
  · rename_i h0; subst h0; rfl
  · simp
theorem row_add {w : World} {b : Nat} {vs : List Value} (h : RowAt w b vs) : ∀ j u, vs[j]? = some u → w.cell? ((⟨b, 0, none⟩ : Addr).add j) = some u := by
  intro j u hj
  rw [addr_add, h j (List.getElem?_eq_some_iff.1 hj).1]; exact hj
theorem lt_of_row {w : World} {b : Nat} {vs : List Value} (h : RowAt w b vs) (hl : 0 < vs.length) : b < w.heap.size :=
  lt_of_cell ((h 0 hl).trans (List.getElem?_eq_getElem hl))
theorem own_parts {w : World} {base e n i : Nat} {v : Value} {vs : List Value} (h : w.ownsRow base e 1 v n vs) (hne : v ≠ .slice none 0 0) (hi : i < n) :
    ∃ g c, v = .slice (some ⟨g, 0, none⟩) n c ∧ base ≤ g ∧ g < w.heap.size ∧ (∃ u, w.cell? ⟨g, i, none⟩ = some u) ∧ w.frozen? ⟨g, i, none⟩ = false := by
  obtain ⟨hl, h' | ⟨g, cap, cur, hv, hb, hh, hn, _, hs, ht⟩⟩ := h
  · exact absurd h'.1 hne
  · refine ⟨g, cap, hv, hb, ?_, ?_, ?_⟩
    · rcases Nat.lt_or_ge g w.heap.size with h' | h'
      · exact h'
      · rw [Array.getElem?_eq_none h'] at hh; cases hh
    · simp [World.cell?, hh, Array.getElem?_eq_getElem (show i < cur.size by omega)]
    · simp [World.frozen?, hh]
theorem own_row {w : World} {base e n g c : Nat} {vs : List Value} (h : w.ownsRow base e 1 (.slice (some ⟨g, 0, none⟩) n c) n vs) (hl : vs.length = n) : RowAt w g vs := by
  intro j hj
  exact h.cellAt j (by omega)
theorem row_set {w : World} {g i : Nat} {ps : List (Option Nat)} (h : RowAt w g (ptrs ps)) (hi : i < ps.length) : RowAt (w.setCell ⟨g, i, none⟩ (.pointer none)) g (ptrs (ps.set i none)) := by
  intro j hj
  rw [ptrs_len, List.length_set] at hj
  have h0 := h j (by rw [ptrs_len]; exact hj)
  by_cases e : j = i
  · subst e
    rw [World.cell?_setCell_same (u := (ptrs ps)[j]'(by rw [ptrs_len]; exact hj))]
    · simp [ptrs, hj, pv]
    · rw [h0, List.getElem?_eq_getElem]
  · rw [World.cell?_setCell_other, h0]
    · simp [ptrs, Ne.symm e]
    · intro e'; exact e (congrArg Addr.off e').symm
theorem below_more {B : Nat} {w w' : World} (h : Below B w w') (q : Nat) : Below B w (w'.drewN q) := ⟨h.os, h.tape, h.output, h.size, h.block⟩
theorem vw_len {w : World} {v : Value} {vs : List Value} (h : Vw w v vs) : ∃ a c, v = .slice a vs.length c := by
  obtain ⟨a, c, e, _⟩ := h; exact ⟨a, c, e⟩

set_option maxHeartbeats 800000 in
theorem same13_true (ob oo : Nat) (kv vv tv k2 v2 t2 : Value) (ks ts : List Int) (ps : List (Option Nat)) (w : World) (hn : ks.length ≤ 1000000) (ht : ts.length ≤ 1000000) (hp : ps.length ≤ 1000000)
    (h0 : w.cell? ⟨ob, oo, none⟩ = some kv) (h1 : w.cell? ⟨ob, oo + 1, none⟩ = some vv) (h2 : w.cell? ⟨ob, oo + 2, none⟩ = some tv) (h3 : w.cell? ⟨ob, oo + 3, none⟩ = some (.int .i64 0))
    (k1 : Vw w kv (ints ks)) (k1' : Vw w k2 (ints ks)) (t1 : Vw w tv (ints ts)) (t1' : Vw w t2 (ints ts)) (p1 : Vw w vv (ptrs ps)) (p1' : Vw w v2 (ptrs ps)) :
    Calls Yba.prog 13 #[.pointer (some ⟨ob, oo, none⟩), k2, t2, v2] w fun e w' => e = .returned (.bool true) ∧ ∃ q, w.drewN q = w' := by
  have KK := equal35_same ks kv k2 w k1 k1' hn
  have TT := fun q => equal35_same ts tv t2 (w.drewN q) t1 t1' ht
  have PP := fun q => equal36_same ps vv v2 (w.drewN q) p1 p1' hp
  have K' : Hid (Calls Yba.prog 35 #[kv, k2] w fun e w' => e = .returned (.bool true) ∧ ∃ q, w.drewN q = w') := KK
  have T' : Hid (∀ q, Calls Yba.prog 35 #[tv, t2] (w.drewN q) fun e w' => e = .returned (.bool true) ∧ ∃ r, (w.drewN q).drewN r = w') := TT
  have P' : Hid (∀ q, Calls Yba.prog 36 #[vv, v2] (w.drewN q) fun e w' => e = .returned (.bool true) ∧ ∃ r, (w.drewN q).drewN r = w') := PP
  clear KK TT PP k1 k1' t1 t1' p1 p1' hn ht hp
  go_enter Yba.func13, Yba.ntmps13
  go_wp2_with fail
  refine K'.out.mono ?_
  rintro e w' ⟨rfl, q, rfl⟩
  go_wp2_with fail
  refine (T'.out _).mono ?_
  rintro e w' ⟨rfl, q2, rfl⟩
  rw [drewN_drewN]
  go_wp2_with fail
  refine (P'.out _).mono ?_
  rintro e w' ⟨rfl, q3, rfl⟩
  rw [drewN_drewN]
  go_wp2
  go_ret
  exact ⟨rfl, _, rfl⟩

set_option maxHeartbeats 800000 in
theorem same14_true (ob oo : Nat) (kv vv tv k2 v2 t2 : Value) (ks ts : List Int) (ps : List (Option Nat)) (w : World) (hn : ks.length ≤ 1000000) (ht : ts.length ≤ 1000000) (hp : ps.length ≤ 1000000)
    (h0 : w.cell? ⟨ob, oo, none⟩ = some kv) (h1 : w.cell? ⟨ob, oo + 1, none⟩ = some vv) (h2 : w.cell? ⟨ob, oo + 2, none⟩ = some tv) (h3 : w.cell? ⟨ob, oo + 3, none⟩ = some (.int .i64 0))
    (k1 : Vw w kv (ints ks)) (k1' : Vw w k2 (ints ks)) (t1 : Vw w tv (ints ts)) (t1' : Vw w t2 (ints ts)) (p1 : Vw w vv (ptrs ps)) (p1' : Vw w v2 (ptrs ps)) :
    Calls Yba.prog 14 #[.pointer (some ⟨ob, oo, none⟩), k2, t2, v2] w fun e w' => e = .returned (.bool true) ∧ ∃ q, w.drewN q = w' := by
  have KK := equal35_same ks kv k2 w k1 k1' hn
  have TT := fun q => equal35_same ts tv t2 (w.drewN q) t1 t1' ht
  have PP := fun q => equal37_same ps vv v2 (w.drewN q) p1 p1' hp
  have K' : Hid (Calls Yba.prog 35 #[kv, k2] w fun e w' => e = .returned (.bool true) ∧ ∃ q, w.drewN q = w') := KK
  have T' : Hid (∀ q, Calls Yba.prog 35 #[tv, t2] (w.drewN q) fun e w' => e = .returned (.bool true) ∧ ∃ r, (w.drewN q).drewN r = w') := TT
  have P' : Hid (∀ q, Calls Yba.prog 37 #[vv, v2] (w.drewN q) fun e w' => e = .returned (.bool true) ∧ ∃ r, (w.drewN q).drewN r = w') := PP
  clear KK TT PP k1 k1' t1 t1' p1 p1' hn ht hp
  go_enter Yba.func14, Yba.ntmps14
  go_wp2_with fail
  refine K'.out.mono ?_
  rintro e w' ⟨rfl, q, rfl⟩
  go_wp2_with fail
  refine (T'.out _).mono ?_
  rintro e w' ⟨rfl, q2, rfl⟩
  rw [drewN_drewN]
  go_wp2_with fail
  refine (P'.out _).mono ?_
  rintro e w' ⟨rfl, q3, rfl⟩
  rw [drewN_drewN]
  go_wp2
  go_ret
  exact ⟨rfl, _, rfl⟩

set_option maxHeartbeats 800000 in
theorem same15_true (ob oo : Nat) (kv vv tv k2 v2 t2 : Value) (ks ts : List Int) (ps : List (Option Nat)) (w : World) (hn : ks.length ≤ 1000000) (ht : ts.length ≤ 1000000) (hp : ps.length ≤ 1000000)
    (h0 : w.cell? ⟨ob, oo, none⟩ = some kv) (h1 : w.cell? ⟨ob, oo + 1, none⟩ = some vv) (h2 : w.cell? ⟨ob, oo + 2, none⟩ = some tv) (h3 : w.cell? ⟨ob, oo + 3, none⟩ = some (.int .i64 0))
    (k1 : Vw w kv (ints ks)) (k1' : Vw w k2 (ints ks)) (t1 : Vw w tv (ints ts)) (t1' : Vw w t2 (ints ts)) (p1 : Vw w vv (ptrs ps)) (p1' : Vw w v2 (ptrs ps)) :
    Calls Yba.prog 15 #[.pointer (some ⟨ob, oo, none⟩), k2, t2, v2] w fun e w' => e = .returned (.bool true) ∧ ∃ q, w.drewN q = w' := by
  have KK := equal35_same ks kv k2 w k1 k1' hn
  have TT := fun q => equal35_same ts tv t2 (w.drewN q) t1 t1' ht
  have PP := fun q => equal38_same ps vv v2 (w.drewN q) p1 p1' hp
  have K' : Hid (Calls Yba.prog 35 #[kv, k2] w fun e w' => e = .returned (.bool true) ∧ ∃ q, w.drewN q = w') := KK
  have T' : Hid (∀ q, Calls Yba.prog 35 #[tv, t2] (w.drewN q) fun e w' => e = .returned (.bool true) ∧ ∃ r, (w.drewN q).drewN r = w') := TT
  have P' : Hid (∀ q, Calls Yba.prog 38 #[vv, v2] (w.drewN q) fun e w' => e = .returned (.bool true) ∧ ∃ r, (w.drewN q).drewN r = w') := PP
  clear KK TT PP k1 k1' t1 t1' p1 p1' hn ht hp
  go_enter Yba.func15, Yba.ntmps15
  go_wp2_with fail
  refine K'.out.mono ?_
  rintro e w' ⟨rfl, q, rfl⟩
  go_wp2_with fail
  refine (T'.out _).mono ?_
  rintro e w' ⟨rfl, q2, rfl⟩
  rw [drewN_drewN]
  go_wp2_with fail
  refine (P'.out _).mono ?_
  rintro e w' ⟨rfl, q3, rfl⟩
  rw [drewN_drewN]
  go_wp2
  go_ret
  exact ⟨rfl, _, rfl⟩

end Go.Proofs.Ybulkexnkw
