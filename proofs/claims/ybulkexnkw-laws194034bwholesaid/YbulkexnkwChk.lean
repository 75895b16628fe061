/-
  The law's two checks over a list in memory (each by program out of one text).
-/
import Derived.Test.YbulkexnkwAfter
import Derived.Test.YbulkexnkwDropQ
namespace Go.Proofs.Ybulkexnkw
open Go.RowKit

theorem after12_any (ob oo kb vb tb kB tB vB kc tc vc n c : Nat) (ks ts : List Int) (ps : List Nat) (w : World) (hk : ks.length = n) (ht : ts.length = n) (hp : ps.length = n) (hn : n ≤ 5000) (hc : c < n) (ck : n ≤ kc) (ct : n ≤ tc) (cv : n ≤ vc)
    (h : OrdLeft w ob oo kb vb tb (eK ks c) (eK ts c) (eV ps c) (eM n c)) (rk : RowAt w kB (ints ks)) (rt : RowAt w tB (ints ts)) (rv : RowAt w vB (ptrs (ps.map some))) :
    Calls Yba.prog 12 #[.pointer (some ⟨ob, oo, none⟩), .slice (some ⟨kB, 0, none⟩) n kc, .slice (some ⟨tB, 0, none⟩) n tc, .slice (some ⟨vB, 0, none⟩) n vc, .int .i64 c] w fun e w' => e = .returned (.bool true) ∧ Below w.heap.size w w' := by
  obtain ⟨kv, h0, k1⟩ := h.c0
  obtain ⟨vv, h1, p1⟩ := h.c1
  obtain ⟨tv, h2, t1⟩ := h.c2
  have h3 := h.c3
  by_cases e1 : n = 1
  · subst e1
    have hc0 : c = 0 := by omega
    subst hc0
    rw [show eM 1 0 = 0 by simp [eM]] at h3
    have E1 : eK ks 0 = [] := by rw [eK_first, List.drop_eq_nil_of_le (by omega)]
    have E2 : eK ts 0 = [] := by rw [eK_first, List.drop_eq_nil_of_le (by omega)]
    have E3 : eV ps 0 = [] := by rw [eV_first, List.drop_eq_nil_of_le (by simp; omega)]
    rw [E1] at k1
    rw [E2] at t1
    rw [E3] at p1
    exact after12_one ob oo kB tB vB kc tc vc kv vv tv w ck ct cv h0 h1 h2 h3 k1.vw t1.vw p1.vw
  · obtain ⟨m, rfl⟩ : ∃ m, n = m + 2 := ⟨n - 2, by omega⟩
    by_cases e0 : c = 0
    · subst e0
      rw [show eM (m + 2) 0 = 0 by simp [eM]] at h3
      rw [eK_first] at k1 t1
      rw [eV_first] at p1
      exact after12_first ob oo kB tB vB kc tc vc m kv vv tv ks ts (ps.map some) w (by omega) hk ht (by simp [hp]) ck ct cv h0 h1 h2 h3 rk rt rv k1.vw t1.vw p1.vw
    · by_cases el : c = m + 1
      · subst el
        rw [show eM (m + 2) (m + 1) = 0 by simp [eM]] at h3
        rw [eK_last hk] at k1
        rw [eK_last ht] at t1
        rw [eV_last hp] at p1
        exact after12_last ob oo kB tB vB kc tc vc m kv vv tv ks ts (ps.map some) w (by omega) hk ht (by simp [hp]) ck ct cv h0 h1 h2 h3 rk rt rv k1.vw t1.vw p1.vw
      · rw [show eM (m + 2) c = 1 by unfold eM; rw [if_neg (by omega)]] at h3
        rw [eK_in hk (by omega) (by omega)] at k1
        rw [eK_in ht (by omega) (by omega)] at t1
        rw [eV_in hp (by omega) (by omega)] at p1
        exact after12_in ob oo kB tB vB kc tc vc (m + 2) c kv vv tv ks ts (ps.map some) w (by omega) hk ht (by simp [hp]) (by omega) (by omega) h0 h1 h2 h3 rk rt rv k1.vw t1.vw p1.vw

theorem after16_any (ob oo kb vb tb kB tB vB kc tc vc n c : Nat) (ks ts : List Int) (ps : List Nat) (w : World) (hk : ks.length = n) (ht : ts.length = n) (hp : ps.length = n) (hn : n ≤ 5000) (hc : c < n) (ck : n ≤ kc) (ct : n ≤ tc) (cv : n ≤ vc)
    (h : OrdLeft w ob oo kb vb tb (eK ks c) (eK ts c) (eV ps c) (eM n c)) (rk : RowAt w kB (ints ks)) (rt : RowAt w tB (ints ts)) (rv : RowAt w vB (ptrs (ps.map some))) :
    Calls Yba.prog 16 #[.pointer (some ⟨ob, oo, none⟩), .slice (some ⟨kB, 0, none⟩) n kc, .slice (some ⟨tB, 0, none⟩) n tc, .slice (some ⟨vB, 0, none⟩) n vc, .int .i64 c] w fun e w' => e = .returned (.bool true) ∧ Below w.heap.size w w' := by
  obtain ⟨kv, h0, k1⟩ := h.c0
  obtain ⟨vv, h1, p1⟩ := h.c1
  obtain ⟨tv, h2, t1⟩ := h.c2
  have h3 := h.c3
  by_cases e1 : n = 1
  · subst e1
    have hc0 : c = 0 := by omega
    subst hc0
    rw [show eM 1 0 = 0 by simp [eM]] at h3
    have E1 : eK ks 0 = [] := by rw [eK_first, List.drop_eq_nil_of_le (by omega)]
    have E2 : eK ts 0 = [] := by rw [eK_first, List.drop_eq_nil_of_le (by omega)]
    have E3 : eV ps 0 = [] := by rw [eV_first, List.drop_eq_nil_of_le (by simp; omega)]
    rw [E1] at k1
    rw [E2] at t1
    rw [E3] at p1
    exact after16_one ob oo kB tB vB kc tc vc kv vv tv w ck ct cv h0 h1 h2 h3 k1.vw t1.vw p1.vw
  · obtain ⟨m, rfl⟩ : ∃ m, n = m + 2 := ⟨n - 2, by omega⟩
    by_cases e0 : c = 0
    · subst e0
      rw [show eM (m + 2) 0 = 0 by simp [eM]] at h3
      rw [eK_first] at k1 t1
      rw [eV_first] at p1
      exact after16_first ob oo kB tB vB kc tc vc m kv vv tv ks ts (ps.map some) w (by omega) hk ht (by simp [hp]) ck ct cv h0 h1 h2 h3 rk rt rv k1.vw t1.vw p1.vw
    · by_cases el : c = m + 1
      · subst el
        rw [show eM (m + 2) (m + 1) = 0 by simp [eM]] at h3
        rw [eK_last hk] at k1
        rw [eK_last ht] at t1
        rw [eV_last hp] at p1
        exact after16_last ob oo kB tB vB kc tc vc m kv vv tv ks ts (ps.map some) w (by omega) hk ht (by simp [hp]) ck ct cv h0 h1 h2 h3 rk rt rv k1.vw t1.vw p1.vw
      · rw [show eM (m + 2) c = 1 by unfold eM; rw [if_neg (by omega)]] at h3
        rw [eK_in hk (by omega) (by omega)] at k1
        rw [eK_in ht (by omega) (by omega)] at t1
        rw [eV_in hp (by omega) (by omega)] at p1
        exact after16_in ob oo kB tB vB kc tc vc (m + 2) c kv vv tv ks ts (ps.map some) w (by omega) hk ht (by simp [hp]) (by omega) (by omega) h0 h1 h2 h3 rk rt rv k1.vw t1.vw p1.vw

theorem after17_any (ob oo kb vb tb kB tB vB kc tc vc n c : Nat) (ks ts : List Int) (ps : List Nat) (w : World) (hk : ks.length = n) (ht : ts.length = n) (hp : ps.length = n) (hn : n ≤ 5000) (hc : c < n) (ck : n ≤ kc) (ct : n ≤ tc) (cv : n ≤ vc)
    (h : OrdLeft w ob oo kb vb tb (eK ks c) (eK ts c) (eV ps c) (eM n c)) (rk : RowAt w kB (ints ks)) (rt : RowAt w tB (ints ts)) (rv : RowAt w vB (ptrs (ps.map some))) :
    Calls Yba.prog 17 #[.pointer (some ⟨ob, oo, none⟩), .slice (some ⟨kB, 0, none⟩) n kc, .slice (some ⟨tB, 0, none⟩) n tc, .slice (some ⟨vB, 0, none⟩) n vc, .int .i64 c] w fun e w' => e = .returned (.bool true) ∧ Below w.heap.size w w' := by
  obtain ⟨kv, h0, k1⟩ := h.c0
  obtain ⟨vv, h1, p1⟩ := h.c1
  obtain ⟨tv, h2, t1⟩ := h.c2
  have h3 := h.c3
  by_cases e1 : n = 1
  · subst e1
    have hc0 : c = 0 := by omega
    subst hc0
    rw [show eM 1 0 = 0 by simp [eM]] at h3
    have E1 : eK ks 0 = [] := by rw [eK_first, List.drop_eq_nil_of_le (by omega)]
    have E2 : eK ts 0 = [] := by rw [eK_first, List.drop_eq_nil_of_le (by omega)]
    have E3 : eV ps 0 = [] := by rw [eV_first, List.drop_eq_nil_of_le (by simp; omega)]
    rw [E1] at k1
    rw [E2] at t1
    rw [E3] at p1
    exact after17_one ob oo kB tB vB kc tc vc kv vv tv w ck ct cv h0 h1 h2 h3 k1.vw t1.vw p1.vw
  · obtain ⟨m, rfl⟩ : ∃ m, n = m + 2 := ⟨n - 2, by omega⟩
    by_cases e0 : c = 0
    · subst e0
      rw [show eM (m + 2) 0 = 0 by simp [eM]] at h3
      rw [eK_first] at k1 t1
      rw [eV_first] at p1
      exact after17_first ob oo kB tB vB kc tc vc m kv vv tv ks ts (ps.map some) w (by omega) hk ht (by simp [hp]) ck ct cv h0 h1 h2 h3 rk rt rv k1.vw t1.vw p1.vw
    · by_cases el : c = m + 1
      · subst el
        rw [show eM (m + 2) (m + 1) = 0 by simp [eM]] at h3
        rw [eK_last hk] at k1
        rw [eK_last ht] at t1
        rw [eV_last hp] at p1
        exact after17_last ob oo kB tB vB kc tc vc m kv vv tv ks ts (ps.map some) w (by omega) hk ht (by simp [hp]) ck ct cv h0 h1 h2 h3 rk rt rv k1.vw t1.vw p1.vw
      · rw [show eM (m + 2) c = 1 by unfold eM; rw [if_neg (by omega)]] at h3
        rw [eK_in hk (by omega) (by omega)] at k1
        rw [eK_in ht (by omega) (by omega)] at t1
        rw [eV_in hp (by omega) (by omega)] at p1
        exact after17_in ob oo kB tB vB kc tc vc (m + 2) c kv vv tv ks ts (ps.map some) w (by omega) hk ht (by simp [hp]) (by omega) (by omega) h0 h1 h2 h3 rk rt rv k1.vw t1.vw p1.vw

theorem same13_any (ob oo kb vb tb : Nat) (k2 v2 t2 : Value) (ks ts : List Int) (ps : List (Option Nat)) (w : World) (hk : ks.length ≤ 5000) (ht : ts.length ≤ 5000) (hp : ps.length ≤ 5000)
    (h : OrdLeft w ob oo kb vb tb ks ts ps 0) (k1 : Vw w k2 (ints ks)) (t1 : Vw w t2 (ints ts)) (p1 : Vw w v2 (ptrs ps)) :
    Calls Yba.prog 13 #[.pointer (some ⟨ob, oo, none⟩), k2, t2, v2] w fun e w' => e = .returned (.bool true) ∧ Below w.heap.size w w' := by
  obtain ⟨kv, h0, a1⟩ := h.c0
  obtain ⟨vv, h1, a2⟩ := h.c1
  obtain ⟨tv, h2, a3⟩ := h.c2
  refine (same13_true ob oo kv vv tv k2 v2 t2 ks ts ps w (by omega) (by omega) (by omega) h0 h1 h2 h.c3 a1.vw k1 a3.vw t1 a2.vw p1).mono ?_
  rintro e w' ⟨he, q, rfl⟩
  exact ⟨he, below_drewN _ _⟩

theorem same14_any (ob oo kb vb tb : Nat) (k2 v2 t2 : Value) (ks ts : List Int) (ps : List (Option Nat)) (w : World) (hk : ks.length ≤ 5000) (ht : ts.length ≤ 5000) (hp : ps.length ≤ 5000)
    (h : OrdLeft w ob oo kb vb tb ks ts ps 0) (k1 : Vw w k2 (ints ks)) (t1 : Vw w t2 (ints ts)) (p1 : Vw w v2 (ptrs ps)) :
    Calls Yba.prog 14 #[.pointer (some ⟨ob, oo, none⟩), k2, t2, v2] w fun e w' => e = .returned (.bool true) ∧ Below w.heap.size w w' := by
  obtain ⟨kv, h0, a1⟩ := h.c0
  obtain ⟨vv, h1, a2⟩ := h.c1
  obtain ⟨tv, h2, a3⟩ := h.c2
  refine (same14_true ob oo kv vv tv k2 v2 t2 ks ts ps w (by omega) (by omega) (by omega) h0 h1 h2 h.c3 a1.vw k1 a3.vw t1 a2.vw p1).mono ?_
  rintro e w' ⟨he, q, rfl⟩
  exact ⟨he, below_drewN _ _⟩

theorem same15_any (ob oo kb vb tb : Nat) (k2 v2 t2 : Value) (ks ts : List Int) (ps : List (Option Nat)) (w : World) (hk : ks.length ≤ 5000) (ht : ts.length ≤ 5000) (hp : ps.length ≤ 5000)
    (h : OrdLeft w ob oo kb vb tb ks ts ps 0) (k1 : Vw w k2 (ints ks)) (t1 : Vw w t2 (ints ts)) (p1 : Vw w v2 (ptrs ps)) :
    Calls Yba.prog 15 #[.pointer (some ⟨ob, oo, none⟩), k2, t2, v2] w fun e w' => e = .returned (.bool true) ∧ Below w.heap.size w w' := by
  obtain ⟨kv, h0, a1⟩ := h.c0
  obtain ⟨vv, h1, a2⟩ := h.c1
  obtain ⟨tv, h2, a3⟩ := h.c2
  refine (same15_true ob oo kv vv tv k2 v2 t2 ks ts ps w (by omega) (by omega) (by omega) h0 h1 h2 h.c3 a1.vw k1 a3.vw t1 a2.vw p1).mono ?_
  rintro e w' ⟨he, q, rfl⟩
  exact ⟨he, below_drewN _ _⟩

end Go.Proofs.Ybulkexnkw
