/-
  'find' and 'remove' over a list in memory (each by program out of one text).
-/
import Derived.Test.YbulkexnkwOl
import Derived.Test.YbulkexnkwRemC
import Derived.Test.YbulkexnkwRemS
import Derived.Test.YbulkexnkwRemZ
namespace Go.Proofs.Ybulkexnkw
open Go.RowKit

theorem eK_first {xs : List Int} : eK xs 0 = xs.drop 1 := by simp [eK]
theorem eK_last {xs : List Int} {m : Nat} (h : xs.length = m + 2) : eK xs (m + 1) = xs.take (m + 1) := by
  unfold eK; rw [if_neg (by omega), if_pos (by omega)]
theorem eK_in {xs : List Int} {n c : Nat} (h : xs.length = n) (h0 : 0 < c) (h1 : c + 1 < n) : eK xs c = xs := by
  unfold eK; rw [if_neg (by omega), if_neg (by omega)]
theorem eV_first {ps : List Nat} : eV ps 0 = (ps.map some).drop 1 := by simp [eV]
theorem eV_last {ps : List Nat} {m : Nat} (h : ps.length = m + 2) : eV ps (m + 1) = (ps.map some).take (m + 1) := by
  unfold eV; rw [if_neg (by omega), if_pos (by omega)]
theorem eV_in {ps : List Nat} {n c : Nat} (h : ps.length = n) (h0 : 0 < c) (h1 : c + 1 < n) : eV ps c = (ps.map some).set c none := by
  unfold eV; rw [if_neg (by omega), if_neg (by omega)]
theorem drop_set_zero {α : Type} (xs : List α) (a : α) : (xs.set 0 a).drop 1 = xs.drop 1 := by cases xs <;> simp
theorem take_set_self {α : Type} (xs : List α) (n : Nat) (a : α) : (xs.set n a).take n = xs.take n := by
  apply List.ext_getElem?
  intro i
  by_cases h : i < n
  · rw [List.getElem?_take_of_lt h, List.getElem?_take_of_lt h, List.getElem?_set_ne (by omega)]
  · rw [List.getElem?_eq_none (by simp; omega), List.getElem?_eq_none (by simp; omega)]

theorem removeC_any (ob oo kb vb tb : Nat) (ks ts : List Int) (ps : List Nat) (c : Nat) (w : World) (h : OrdAt w ob oo kb vb tb ks ts ps) (hc : c < ps.length) :
    Calls Yba.prog 22 #[.pointer (some ⟨ob, oo, none⟩), .int .i64 c] w fun e w' => e = .returned (.tuple #[]) ∧ OrdLeft w' ob oo kb vb tb (eK ks c) (eK ts c) (eV ps c) (eM ps.length c) ∧ Rem w w' ob oo vb := by
  obtain ⟨kc, hkc, h0⟩ := h.c0
  obtain ⟨vc, hvc, h1⟩ := h.c1
  obtain ⟨tc, htc, h2⟩ := h.c2
  have hsm := h.small
  by_cases e1 : ps.length = 1
  · have hc0 : c = 0 := by omega
    subst hc0
    have hv := h.val hc
    rw [e1] at h0 h1 h2 hkc hvc htc
    refine (removeC_one ob oo kb vb tb kc vc tc _ w h.n1 hkc hvc htc h0 h1 h2 h.c3 (h.fz _) (h.fz _) (h.fz _) (h.fz _) hv (h.fv _)).mono ?_
    rintro e w' ⟨he, ak, av, at', ck, cv, ct, r⟩
    refine ⟨he, ?_, r.rem⟩
    have E1 : ints (eK ks 0) = [] := by rw [eK_first, List.drop_eq_nil_of_le (by rw [h.lk]; omega)]; rfl
    have E2 : ints (eK ts 0) = [] := by rw [eK_first, List.drop_eq_nil_of_le (by rw [h.lt]; omega)]; rfl
    have E3 : ptrs (eV ps 0) = [] := by rw [eV_first, List.drop_eq_nil_of_le (by simp; omega)]; rfl
    rw [show eM ps.length 0 = 0 by simp [eM]]
    exact left_of_removed h r (by rw [E1]; exact vwB_empty _ _ _ _) (by rw [E2]; exact vwB_empty _ _ _ _) (by rw [E3]; exact vwB_empty _ _ _ _)
  · obtain ⟨m, hm⟩ : ∃ m, ps.length = m + 2 := ⟨ps.length - 2, by have := h.pos; omega⟩
    by_cases e0 : c = 0
    · subst e0
      have v0 := h.val hc
      have v1 := h.val (j := 1) (by omega)
      have v2 := h.val (j := 1 + m) (by omega)
      rw [hm] at h0 h1 h2 hkc hvc htc
      refine (removeC_first ob oo kb vb tb m kc vc tc _ _ _ w (by omega) h.n1 hkc hvc htc h0 h1 h2 h.c3 (h.fz _) (h.fz _) (h.fz _) (h.fz _) v0 (h.fv _) v1 v2).mono ?_
      rintro e w' ⟨he, r⟩
      refine ⟨he, ?_, r.rem⟩
      rw [show eM ps.length 0 = 0 by simp [eM], eK_first, eK_first, eV_first]
      refine left_of_removed h r ?_ ?_ ?_
      · rw [← ints_drop]; exact vwB_drop h.rk (by rw [ints_len, h.lk, hm])
      · rw [← ints_drop]; exact vwB_drop h.rt (by rw [ints_len, h.lt, hm])
      · rw [← drop_set_zero _ none, ← ptrs_drop]; exact vwB_drop (row_removed h r hc) (by rw [ptrs_len]; simp [hm])
    · by_cases el : c = m + 1
      · subst el
        have v0 := h.val hc
        have v1 := h.val (j := 0) (by omega)
        have v2 := h.val (j := m) (by omega)
        rw [hm] at h0 h1 h2 hkc hvc htc
        refine (removeC_last ob oo kb vb tb m kc vc tc _ _ _ w (by omega) h.n1 hkc hvc htc h0 h1 h2 h.c3 (h.fz _) (h.fz _) (h.fz _) (h.fz _) v0 (h.fv _) v1 v2).mono ?_
        rintro e w' ⟨he, r⟩
        refine ⟨he, ?_, r.rem⟩
        rw [show eM ps.length (m + 1) = 0 by simp [eM, hm], eK_last (by rw [h.lk, hm]), eK_last (by rw [h.lt, hm]), eV_last hm]
        refine left_of_removed h r ?_ ?_ ?_
        · rw [← ints_take]; exact vwB_take h.rk (by rw [ints_len, h.lk]; omega)
        · rw [← ints_take]; exact vwB_take h.rt (by rw [ints_len, h.lt]; omega)
        · rw [← take_set_self _ _ none, ← ptrs_take]; exact vwB_take (row_removed h r hc) (by rw [ptrs_len]; simp; omega)
      · have v0 := h.val hc
        have v1 := h.val (j := 0) (by omega)
        have v2 := h.val (j := ps.length - 1) (by omega)
        refine (removeC_in ob oo kb vb tb ps.length kc vc tc c _ _ _ w (by omega) h.n1 (by omega) (by omega) h0 h1 h2 h.c3 (h.fz _) (h.fz _) (h.fz _) (h.fz _) v0 (h.fv _) v1 v2).mono ?_
        rintro e w' ⟨he, r⟩
        refine ⟨he, ?_, r.rem⟩
        rw [show eM ps.length c = 1 by unfold eM; rw [if_neg (by omega)], eK_in h.lk (by omega) (by omega), eK_in h.lt (by omega) (by omega), eV_in rfl (by omega) (by omega)]
        exact left_of_removed h r (vwB_row h.rk (by rw [ints_len, h.lk])) (vwB_row h.rt (by rw [ints_len, h.lt])) (vwB_row (row_removed h r hc) (by rw [ptrs_len]; simp))

theorem removeS_any (ob oo kb vb tb : Nat) (ks ts : List Int) (ps : List Nat) (c : Nat) (w : World) (h : OrdAt w ob oo kb vb tb ks ts ps) (hc : c < ps.length) :
    Calls Yba.prog 30 #[.pointer (some ⟨ob, oo, none⟩), .int .i64 c] w fun e w' => e = .returned (.tuple #[]) ∧ OrdLeft w' ob oo kb vb tb (eK ks c) (eK ts c) (eV ps c) (eM ps.length c) ∧ Rem w w' ob oo vb := by
  obtain ⟨kc, hkc, h0⟩ := h.c0
  obtain ⟨vc, hvc, h1⟩ := h.c1
  obtain ⟨tc, htc, h2⟩ := h.c2
  have hsm := h.small
  by_cases e1 : ps.length = 1
  · have hc0 : c = 0 := by omega
    subst hc0
    have hv := h.val hc
    rw [e1] at h0 h1 h2 hkc hvc htc
    refine (removeS_one ob oo kb vb tb kc vc tc _ w h.n1 hkc hvc htc h0 h1 h2 h.c3 (h.fz _) (h.fz _) (h.fz _) (h.fz _) hv (h.fv _)).mono ?_
    rintro e w' ⟨he, ak, av, at', ck, cv, ct, r⟩
    refine ⟨he, ?_, r.rem⟩
    have E1 : ints (eK ks 0) = [] := by rw [eK_first, List.drop_eq_nil_of_le (by rw [h.lk]; omega)]; rfl
    have E2 : ints (eK ts 0) = [] := by rw [eK_first, List.drop_eq_nil_of_le (by rw [h.lt]; omega)]; rfl
    have E3 : ptrs (eV ps 0) = [] := by rw [eV_first, List.drop_eq_nil_of_le (by simp; omega)]; rfl
    rw [show eM ps.length 0 = 0 by simp [eM]]
    exact left_of_removed h r (by rw [E1]; exact vwB_empty _ _ _ _) (by rw [E2]; exact vwB_empty _ _ _ _) (by rw [E3]; exact vwB_empty _ _ _ _)
  · obtain ⟨m, hm⟩ : ∃ m, ps.length = m + 2 := ⟨ps.length - 2, by have := h.pos; omega⟩
    by_cases e0 : c = 0
    · subst e0
      have v0 := h.val hc
      have v1 := h.val (j := 1) (by omega)
      have v2 := h.val (j := 1 + m) (by omega)
      rw [hm] at h0 h1 h2 hkc hvc htc
      refine (removeS_first ob oo kb vb tb m kc vc tc _ _ _ w (by omega) h.n1 hkc hvc htc h0 h1 h2 h.c3 (h.fz _) (h.fz _) (h.fz _) (h.fz _) v0 (h.fv _) v1 v2).mono ?_
      rintro e w' ⟨he, r⟩
      refine ⟨he, ?_, r.rem⟩
      rw [show eM ps.length 0 = 0 by simp [eM], eK_first, eK_first, eV_first]
      refine left_of_removed h r ?_ ?_ ?_
      · rw [← ints_drop]; exact vwB_drop h.rk (by rw [ints_len, h.lk, hm])
      · rw [← ints_drop]; exact vwB_drop h.rt (by rw [ints_len, h.lt, hm])
      · rw [← drop_set_zero _ none, ← ptrs_drop]; exact vwB_drop (row_removed h r hc) (by rw [ptrs_len]; simp [hm])
    · by_cases el : c = m + 1
      · subst el
        have v0 := h.val hc
        have v1 := h.val (j := 0) (by omega)
        have v2 := h.val (j := m) (by omega)
        rw [hm] at h0 h1 h2 hkc hvc htc
        refine (removeS_last ob oo kb vb tb m kc vc tc _ _ _ w (by omega) h.n1 hkc hvc htc h0 h1 h2 h.c3 (h.fz _) (h.fz _) (h.fz _) (h.fz _) v0 (h.fv _) v1 v2).mono ?_
        rintro e w' ⟨he, r⟩
        refine ⟨he, ?_, r.rem⟩
        rw [show eM ps.length (m + 1) = 0 by simp [eM, hm], eK_last (by rw [h.lk, hm]), eK_last (by rw [h.lt, hm]), eV_last hm]
        refine left_of_removed h r ?_ ?_ ?_
        · rw [← ints_take]; exact vwB_take h.rk (by rw [ints_len, h.lk]; omega)
        · rw [← ints_take]; exact vwB_take h.rt (by rw [ints_len, h.lt]; omega)
        · rw [← take_set_self _ _ none, ← ptrs_take]; exact vwB_take (row_removed h r hc) (by rw [ptrs_len]; simp; omega)
      · have v0 := h.val hc
        have v1 := h.val (j := 0) (by omega)
        have v2 := h.val (j := ps.length - 1) (by omega)
        refine (removeS_in ob oo kb vb tb ps.length kc vc tc c _ _ _ w (by omega) h.n1 (by omega) (by omega) h0 h1 h2 h.c3 (h.fz _) (h.fz _) (h.fz _) (h.fz _) v0 (h.fv _) v1 v2).mono ?_
        rintro e w' ⟨he, r⟩
        refine ⟨he, ?_, r.rem⟩
        rw [show eM ps.length c = 1 by unfold eM; rw [if_neg (by omega)], eK_in h.lk (by omega) (by omega), eK_in h.lt (by omega) (by omega), eV_in rfl (by omega) (by omega)]
        exact left_of_removed h r (vwB_row h.rk (by rw [ints_len, h.lk])) (vwB_row h.rt (by rw [ints_len, h.lt])) (vwB_row (row_removed h r hc) (by rw [ptrs_len]; simp))

theorem removeZ_any (ob oo kb vb tb : Nat) (ks ts : List Int) (ps : List Nat) (c : Nat) (w : World) (h : OrdAt w ob oo kb vb tb ks ts ps) (hc : c < ps.length) :
    Calls Yba.prog 33 #[.pointer (some ⟨ob, oo, none⟩), .int .i64 c] w fun e w' => e = .returned (.tuple #[]) ∧ OrdLeft w' ob oo kb vb tb (eK ks c) (eK ts c) (eV ps c) (eM ps.length c) ∧ Rem w w' ob oo vb := by
  obtain ⟨kc, hkc, h0⟩ := h.c0
  obtain ⟨vc, hvc, h1⟩ := h.c1
  obtain ⟨tc, htc, h2⟩ := h.c2
  have hsm := h.small
  by_cases e1 : ps.length = 1
  · have hc0 : c = 0 := by omega
    subst hc0
    have hv := h.val hc
    rw [e1] at h0 h1 h2 hkc hvc htc
    refine (removeZ_one ob oo kb vb tb kc vc tc _ w h.n1 hkc hvc htc h0 h1 h2 h.c3 (h.fz _) (h.fz _) (h.fz _) (h.fz _) hv (h.fv _)).mono ?_
    rintro e w' ⟨he, ak, av, at', ck, cv, ct, r⟩
    refine ⟨he, ?_, r.rem⟩
    have E1 : ints (eK ks 0) = [] := by rw [eK_first, List.drop_eq_nil_of_le (by rw [h.lk]; omega)]; rfl
    have E2 : ints (eK ts 0) = [] := by rw [eK_first, List.drop_eq_nil_of_le (by rw [h.lt]; omega)]; rfl
    have E3 : ptrs (eV ps 0) = [] := by rw [eV_first, List.drop_eq_nil_of_le (by simp; omega)]; rfl
    rw [show eM ps.length 0 = 0 by simp [eM]]
    exact left_of_removed h r (by rw [E1]; exact vwB_empty _ _ _ _) (by rw [E2]; exact vwB_empty _ _ _ _) (by rw [E3]; exact vwB_empty _ _ _ _)
  · obtain ⟨m, hm⟩ : ∃ m, ps.length = m + 2 := ⟨ps.length - 2, by have := h.pos; omega⟩
    by_cases e0 : c = 0
    · subst e0
      have v0 := h.val hc
      have v1 := h.val (j := 1) (by omega)
      have v2 := h.val (j := 1 + m) (by omega)
      rw [hm] at h0 h1 h2 hkc hvc htc
      refine (removeZ_first ob oo kb vb tb m kc vc tc _ _ _ w (by omega) h.n1 hkc hvc htc h0 h1 h2 h.c3 (h.fz _) (h.fz _) (h.fz _) (h.fz _) v0 (h.fv _) v1 v2).mono ?_
      rintro e w' ⟨he, r⟩
      refine ⟨he, ?_, r.rem⟩
      rw [show eM ps.length 0 = 0 by simp [eM], eK_first, eK_first, eV_first]
      refine left_of_removed h r ?_ ?_ ?_
      · rw [← ints_drop]; exact vwB_drop h.rk (by rw [ints_len, h.lk, hm])
      · rw [← ints_drop]; exact vwB_drop h.rt (by rw [ints_len, h.lt, hm])
      · rw [← drop_set_zero _ none, ← ptrs_drop]; exact vwB_drop (row_removed h r hc) (by rw [ptrs_len]; simp [hm])
    · by_cases el : c = m + 1
      · subst el
        have v0 := h.val hc
        have v1 := h.val (j := 0) (by omega)
        have v2 := h.val (j := m) (by omega)
        rw [hm] at h0 h1 h2 hkc hvc htc
        refine (removeZ_last ob oo kb vb tb m kc vc tc _ _ _ w (by omega) h.n1 hkc hvc htc h0 h1 h2 h.c3 (h.fz _) (h.fz _) (h.fz _) (h.fz _) v0 (h.fv _) v1 v2).mono ?_
        rintro e w' ⟨he, r⟩
        refine ⟨he, ?_, r.rem⟩
        rw [show eM ps.length (m + 1) = 0 by simp [eM, hm], eK_last (by rw [h.lk, hm]), eK_last (by rw [h.lt, hm]), eV_last hm]
        refine left_of_removed h r ?_ ?_ ?_
        · rw [← ints_take]; exact vwB_take h.rk (by rw [ints_len, h.lk]; omega)
        · rw [← ints_take]; exact vwB_take h.rt (by rw [ints_len, h.lt]; omega)
        · rw [← take_set_self _ _ none, ← ptrs_take]; exact vwB_take (row_removed h r hc) (by rw [ptrs_len]; simp; omega)
      · have v0 := h.val hc
        have v1 := h.val (j := 0) (by omega)
        have v2 := h.val (j := ps.length - 1) (by omega)
        refine (removeZ_in ob oo kb vb tb ps.length kc vc tc c _ _ _ w (by omega) h.n1 (by omega) (by omega) h0 h1 h2 h.c3 (h.fz _) (h.fz _) (h.fz _) (h.fz _) v0 (h.fv _) v1 v2).mono ?_
        rintro e w' ⟨he, r⟩
        refine ⟨he, ?_, r.rem⟩
        rw [show eM ps.length c = 1 by unfold eM; rw [if_neg (by omega)], eK_in h.lk (by omega) (by omega), eK_in h.lt (by omega) (by omega), eV_in rfl (by omega) (by omega)]
        exact left_of_removed h r (vwB_row h.rk (by rw [ints_len, h.lk])) (vwB_row h.rt (by rw [ints_len, h.lt])) (vwB_row (row_removed h r hc) (by rw [ptrs_len]; simp))

theorem findC_any (ob oo kb vb tb p c : Nat) (ks ts : List Int) (ps : List Nat) (key tie hint : Int) (w : World) (h : OrdAt w ob oo kb vb tb ks ts ps) (hc : c < ps.length) (hp : ps.getD c 0 = p)
    (hnd : ∀ j, j < ps.length → j ≠ c → ps.getD j 0 ≠ p) (hob : ∀ j, j < ps.length → Obj w (ps.getD j 0)) (hi1 : -9223372036854775808 ≤ hint) (hi2 : hint ≤ 9223372036854775807)
    (hle : ∀ j, j ≤ c → leq (ks.getD j 0) (ts.getD j 0) key tie) (hgt : ∀ j, c < j → j < ps.length → ¬ leq (ks.getD j 0) (ts.getD j 0) key tie) :
    Calls Yba.prog 23 #[.pointer (some ⟨ob, oo, none⟩), .int .i64 key, .int .i64 tie, .pointer (some ⟨p, 0, none⟩), .int .i64 hint] w fun e w' => e = .returned (.int .i64 c) ∧ ∃ q, w.drewN q = w' := by
  obtain ⟨kc, hkc, h0⟩ := h.c0
  obtain ⟨vc, hvc, h1⟩ := h.c1
  obtain ⟨tc, htc, h2⟩ := h.c2
  have hsm := h.small
  have hv := h.val hc
  rw [hp] at hv
  by_cases hin : 0 ≤ hint ∧ hint < ps.length
  · obtain ⟨j, rfl⟩ : ∃ j : Nat, hint = j := ⟨hint.toNat, by omega⟩
    have hj : j < ps.length := by omega
    by_cases e : j = c
    · subst e
      exact findC_hint ob oo vb ps.length vc p j key tie w (by omega) hc h1 hv
    · refine findC_place ob oo kb vb tb ps.length kc vc tc p c ks ts key tie j w (by omega) hc h0 h1 h2 h.nums.1 h.nums.2 hv hle hgt ?_
      exact holdsC_diff ob oo vb ps.length vc p (ps.getD j 0) j w (by omega) hj (hnd j hj e) (hob j hj) (by rw [← hp]; exact hob c hc) h1 (h.val hj)
  · refine findC_place ob oo kb vb tb ps.length kc vc tc p c ks ts key tie hint w (by omega) hc h0 h1 h2 h.nums.1 h.nums.2 hv hle hgt ?_
    exact holdsC_out ob oo vb ps.length vc p hint w (by omega) (by omega) hi1 hi2 h1

theorem findS_any (ob oo kb vb tb p c : Nat) (ks ts : List Int) (ps : List Nat) (key tie hint : Int) (w : World) (h : OrdAt w ob oo kb vb tb ks ts ps) (hc : c < ps.length) (hp : ps.getD c 0 = p)
    (hnd : ∀ j, j < ps.length → j ≠ c → ps.getD j 0 ≠ p) (hob : ∀ j, j < ps.length → Obj w (ps.getD j 0)) (hi1 : -9223372036854775808 ≤ hint) (hi2 : hint ≤ 9223372036854775807)
    (hle : ∀ j, j ≤ c → leq (ks.getD j 0) (ts.getD j 0) key tie) (hgt : ∀ j, c < j → j < ps.length → ¬ leq (ks.getD j 0) (ts.getD j 0) key tie) :
    Calls Yba.prog 31 #[.pointer (some ⟨ob, oo, none⟩), .int .i64 key, .int .i64 tie, .pointer (some ⟨p, 0, none⟩), .int .i64 hint] w fun e w' => e = .returned (.int .i64 c) ∧ ∃ q, w.drewN q = w' := by
  obtain ⟨kc, hkc, h0⟩ := h.c0
  obtain ⟨vc, hvc, h1⟩ := h.c1
  obtain ⟨tc, htc, h2⟩ := h.c2
  have hsm := h.small
  have hv := h.val hc
  rw [hp] at hv
  by_cases hin : 0 ≤ hint ∧ hint < ps.length
  · obtain ⟨j, rfl⟩ : ∃ j : Nat, hint = j := ⟨hint.toNat, by omega⟩
    have hj : j < ps.length := by omega
    by_cases e : j = c
    · subst e
      exact findS_hint ob oo vb ps.length vc p j key tie w (by omega) hc h1 hv
    · refine findS_place ob oo kb vb tb ps.length kc vc tc p c ks ts key tie j w (by omega) hc h0 h1 h2 h.nums.1 h.nums.2 hv hle hgt ?_
      exact holdsS_diff ob oo vb ps.length vc p (ps.getD j 0) j w (by omega) hj (hnd j hj e) (hob j hj) (by rw [← hp]; exact hob c hc) h1 (h.val hj)
  · refine findS_place ob oo kb vb tb ps.length kc vc tc p c ks ts key tie hint w (by omega) hc h0 h1 h2 h.nums.1 h.nums.2 hv hle hgt ?_
    exact holdsS_out ob oo vb ps.length vc p hint w (by omega) (by omega) hi1 hi2 h1

end Go.Proofs.Ybulkexnkw
