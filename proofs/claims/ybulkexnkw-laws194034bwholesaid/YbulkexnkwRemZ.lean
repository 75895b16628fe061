/-
  Contracts of 'ordered.remove' where no compaction follows (each by program out of one text).
-/
import Derived.Test.YbulkexnkwRemP
import Derived.BigRegion
namespace Go.Proofs.Ybulkexnkw
open Go.RowKit
set_option linter.unusedVariables false

set_option maxHeartbeats 1600000 in
theorem removeZ_in (ob oo kb vb tb n kc vc tc i p0 p1 p2 : Nat) (w : World) (hn : n ≤ 1000000) (hne : vb ≠ ob) (hi0 : 0 < i) (hi1 : i + 1 < n)
    (h0 : w.cell? ⟨ob, oo, none⟩ = some (.slice (some ⟨kb, 0, none⟩) n kc)) (h1 : w.cell? ⟨ob, oo + 1, none⟩ = some (.slice (some ⟨vb, 0, none⟩) n vc)) (h2 : w.cell? ⟨ob, oo + 2, none⟩ = some (.slice (some ⟨tb, 0, none⟩) n tc))
    (h3 : w.cell? ⟨ob, oo + 3, none⟩ = some (.int .i64 0)) (f0 : w.frozen? ⟨ob, oo, none⟩ = false) (f1 : w.frozen? ⟨ob, oo + 1, none⟩ = false) (f2 : w.frozen? ⟨ob, oo + 2, none⟩ = false) (f3 : w.frozen? ⟨ob, oo + 3, none⟩ = false)
    (hvi : w.cell? ⟨vb, i, none⟩ = some (.pointer (some ⟨p1, 0, none⟩))) (fv : w.frozen? ⟨vb, i, none⟩ = false)
    (hv0 : w.cell? ⟨vb, 0, none⟩ = some (.pointer (some ⟨p0, 0, none⟩))) (hvl : w.cell? ⟨vb, n - 1, none⟩ = some (.pointer (some ⟨p2, 0, none⟩))) :
    Calls Yba.prog 33 #[.pointer (some ⟨ob, oo, none⟩), .int .i64 i] w fun e w' => e = .returned (.tuple #[]) ∧ Removed w w' ob oo vb i (.slice (some ⟨kb, 0, none⟩) (n) (kc)) (.slice (some ⟨vb, 0, none⟩) (n) (vc)) (.slice (some ⟨tb, 0, none⟩) (n) (tc)) 1 := by
  have HR := removed_W1 (i := i) hne h0 h1 h2 h3 hvi
  have HR' : Hid (Removed w (W1 w ob oo vb i) ob oo vb i (.slice (some ⟨kb, 0, none⟩) (n) (kc)) (.slice (some ⟨vb, 0, none⟩) (n) (vc)) (.slice (some ⟨tb, 0, none⟩) (n) (tc)) 1) := HR
  clear HR
  have hz : ¬ 0 = i := by omega
  have hl : ¬ n - 1 = i := by omega
  have hne' : ¬ ob = vb := fun h => hne h.symm
  go_enter Yba.func33, Yba.ntmps33
  go_wp2
  refine wp_loop_rounds 1 ?_
  rw [rounds_succ]
  go_wp2
  refine wp_loop_rounds 1 ?_
  rw [rounds_succ]
  go_wp2
  go_quiet (fail)
  go_wp2
  go_end0
  exact ⟨rfl, HR'.out.drewN _⟩

set_option maxHeartbeats 1600000 in
theorem removeZ_first (ob oo kb vb tb m kc vc tc p0 p1 p2 : Nat) (w : World) (hn : m ≤ 1000000) (hne : vb ≠ ob) (hnk : m + 2 ≤ kc) (hnv : m + 2 ≤ vc) (hnt : m + 2 ≤ tc)
    (h0 : w.cell? ⟨ob, oo, none⟩ = some (.slice (some ⟨kb, 0, none⟩) (m + 2) kc)) (h1 : w.cell? ⟨ob, oo + 1, none⟩ = some (.slice (some ⟨vb, 0, none⟩) (m + 2) vc)) (h2 : w.cell? ⟨ob, oo + 2, none⟩ = some (.slice (some ⟨tb, 0, none⟩) (m + 2) tc))
    (h3 : w.cell? ⟨ob, oo + 3, none⟩ = some (.int .i64 0)) (f0 : w.frozen? ⟨ob, oo, none⟩ = false) (f1 : w.frozen? ⟨ob, oo + 1, none⟩ = false) (f2 : w.frozen? ⟨ob, oo + 2, none⟩ = false) (f3 : w.frozen? ⟨ob, oo + 3, none⟩ = false)
    (hvi : w.cell? ⟨vb, 0, none⟩ = some (.pointer (some ⟨p0, 0, none⟩))) (fv : w.frozen? ⟨vb, 0, none⟩ = false)
    (hv1 : w.cell? ⟨vb, 1, none⟩ = some (.pointer (some ⟨p1, 0, none⟩))) (hvl : w.cell? ⟨vb, 1 + m, none⟩ = some (.pointer (some ⟨p2, 0, none⟩))) :
    Calls Yba.prog 33 #[.pointer (some ⟨ob, oo, none⟩), .int .i64 0] w fun e w' => e = .returned (.tuple #[]) ∧ Removed w w' ob oo vb 0 (.slice (some ⟨kb, 1, none⟩) (m + 1) (kc - 1)) (.slice (some ⟨vb, 1, none⟩) (m + 1) (vc - 1)) (.slice (some ⟨tb, 1, none⟩) (m + 1) (tc - 1)) 0 := by
  have HR := removed_W4 (i := 0) (k := (.slice (some ⟨kb, 1, none⟩) (m + 1) (kc - 1))) (v := (.slice (some ⟨vb, 1, none⟩) (m + 1) (vc - 1))) (t := (.slice (some ⟨tb, 1, none⟩) (m + 1) (tc - 1))) hne h0 h1 h2 h3 hvi
  have HR' : Hid (Removed w (W4 w ob oo vb 0 (.slice (some ⟨kb, 1, none⟩) (m + 1) (kc - 1)) (.slice (some ⟨vb, 1, none⟩) (m + 1) (vc - 1)) (.slice (some ⟨tb, 1, none⟩) (m + 1) (tc - 1))) ob oo vb 0 (.slice (some ⟨kb, 1, none⟩) (m + 1) (kc - 1)) (.slice (some ⟨vb, 1, none⟩) (m + 1) (vc - 1)) (.slice (some ⟨tb, 1, none⟩) (m + 1) (tc - 1)) 0) := HR
  clear HR
  have hne' : ¬ ob = vb := fun h => hne h.symm
  have hkc : 1 < kc := by omega
  have hvc : 1 < vc := by omega
  have htc : 1 < tc := by omega
  go_enter Yba.func33, Yba.ntmps33
  go_wp2
  refine wp_loop_rounds 2 ?_
  rw [rounds_succ]
  go_wp2
  go_region
  go_wp2
  rw [rounds_succ]
  go_wp2
  refine wp_loop_rounds 1 ?_
  rw [rounds_succ]
  go_wp2
  have g1 := HR'.out.c1
  have g3 := HR'.out.c3
  unfold W4 W1 at g1 g3
  go_region
  clear g1 g3
  go_wp2
  go_end0
  have H := HR'.out
  unfold W4 W1 at H
  exact ⟨rfl, H.drew.drew⟩

set_option maxHeartbeats 1600000 in
theorem removeZ_last (ob oo kb vb tb m kc vc tc p0 p1 p2 : Nat) (w : World) (hn : m ≤ 1000000) (hne : vb ≠ ob) (hnk : m + 2 ≤ kc) (hnv : m + 2 ≤ vc) (hnt : m + 2 ≤ tc)
    (h0 : w.cell? ⟨ob, oo, none⟩ = some (.slice (some ⟨kb, 0, none⟩) (m + 2) kc)) (h1 : w.cell? ⟨ob, oo + 1, none⟩ = some (.slice (some ⟨vb, 0, none⟩) (m + 2) vc)) (h2 : w.cell? ⟨ob, oo + 2, none⟩ = some (.slice (some ⟨tb, 0, none⟩) (m + 2) tc))
    (h3 : w.cell? ⟨ob, oo + 3, none⟩ = some (.int .i64 0)) (f0 : w.frozen? ⟨ob, oo, none⟩ = false) (f1 : w.frozen? ⟨ob, oo + 1, none⟩ = false) (f2 : w.frozen? ⟨ob, oo + 2, none⟩ = false) (f3 : w.frozen? ⟨ob, oo + 3, none⟩ = false)
    (hvi : w.cell? ⟨vb, m + 1, none⟩ = some (.pointer (some ⟨p0, 0, none⟩))) (fv : w.frozen? ⟨vb, m + 1, none⟩ = false)
    (hv1 : w.cell? ⟨vb, 0, none⟩ = some (.pointer (some ⟨p1, 0, none⟩))) (hvl : w.cell? ⟨vb, m, none⟩ = some (.pointer (some ⟨p2, 0, none⟩))) :
    Calls Yba.prog 33 #[.pointer (some ⟨ob, oo, none⟩), .int .i64 ((m + 1 : Nat) : Int)] w fun e w' => e = .returned (.tuple #[]) ∧ Removed w w' ob oo vb (m + 1) (.slice (some ⟨kb, 0, none⟩) (m + 1) (kc)) (.slice (some ⟨vb, 0, none⟩) (m + 1) (vc)) (.slice (some ⟨tb, 0, none⟩) (m + 1) (tc)) 0 := by
  have HR := removed_W4 (i := m + 1) (k := (.slice (some ⟨kb, 0, none⟩) (m + 1) (kc))) (v := (.slice (some ⟨vb, 0, none⟩) (m + 1) (vc))) (t := (.slice (some ⟨tb, 0, none⟩) (m + 1) (tc))) hne h0 h1 h2 h3 hvi
  have HR' : Hid (Removed w (W4 w ob oo vb (m + 1) (.slice (some ⟨kb, 0, none⟩) (m + 1) (kc)) (.slice (some ⟨vb, 0, none⟩) (m + 1) (vc)) (.slice (some ⟨tb, 0, none⟩) (m + 1) (tc))) ob oo vb (m + 1) (.slice (some ⟨kb, 0, none⟩) (m + 1) (kc)) (.slice (some ⟨vb, 0, none⟩) (m + 1) (vc)) (.slice (some ⟨tb, 0, none⟩) (m + 1) (tc)) 0) := HR
  clear HR
  have hne' : ¬ ob = vb := fun h => hne h.symm
  have hkc : 1 < kc := by omega
  have hvc : 1 < vc := by omega
  have htc : 1 < tc := by omega
  go_enter Yba.func33, Yba.ntmps33
  go_wp2
  refine wp_loop_rounds 1 ?_
  rw [rounds_succ]
  go_wp2
  refine wp_loop_rounds 2 ?_
  rw [rounds_succ]
  go_wp2
  go_region
  go_wp2
  rw [rounds_succ]
  go_wp2
  have g1 := HR'.out.c1
  have g3 := HR'.out.c3
  unfold W4 W1 at g1 g3
  go_region
  clear g1 g3
  go_wp2
  go_end0
  have H := HR'.out
  unfold W4 W1 at H
  exact ⟨rfl, H.drew.drew⟩

set_option maxHeartbeats 6400000 in
theorem removeZ_one (ob oo kb vb tb kc vc tc p0 : Nat) (w : World) (hne : vb ≠ ob) (hnk : 1 ≤ kc) (hnv : 1 ≤ vc) (hnt : 1 ≤ tc)
    (h0 : w.cell? ⟨ob, oo, none⟩ = some (.slice (some ⟨kb, 0, none⟩) 1 kc)) (h1 : w.cell? ⟨ob, oo + 1, none⟩ = some (.slice (some ⟨vb, 0, none⟩) 1 vc)) (h2 : w.cell? ⟨ob, oo + 2, none⟩ = some (.slice (some ⟨tb, 0, none⟩) 1 tc))
    (h3 : w.cell? ⟨ob, oo + 3, none⟩ = some (.int .i64 0)) (f0 : w.frozen? ⟨ob, oo, none⟩ = false) (f1 : w.frozen? ⟨ob, oo + 1, none⟩ = false) (f2 : w.frozen? ⟨ob, oo + 2, none⟩ = false) (f3 : w.frozen? ⟨ob, oo + 3, none⟩ = false)
    (hvi : w.cell? ⟨vb, 0, none⟩ = some (.pointer (some ⟨p0, 0, none⟩))) (fv : w.frozen? ⟨vb, 0, none⟩ = false) :
    Calls Yba.prog 33 #[.pointer (some ⟨ob, oo, none⟩), .int .i64 0] w fun e w' => e = .returned (.tuple #[]) ∧ ∃ ak av at' ck cv ct, Removed w w' ob oo vb 0 (.slice ak 0 ck) (.slice av 0 cv) (.slice at' 0 ct) 0 := by
  have HR : Hid (∀ K V T, Removed w (W4 w ob oo vb 0 K V T) ob oo vb 0 K V T 0) := fun K V T => removed_W4 (i := 0) hne h0 h1 h2 h3 hvi
  have hne' : ¬ ob = vb := fun h => hne h.symm
  rcases (show kc = 1 ∨ 1 < kc by omega) with e1 | e1 <;> rcases (show vc = 1 ∨ 1 < vc by omega) with e2 | e2 <;> rcases (show tc = 1 ∨ 1 < tc by omega) with e3 | e3
  all_goals
    try subst e1
    try subst e2
    try subst e3
    go_enter Yba.func33, Yba.ntmps33
    go_wp2
    refine wp_loop_rounds 2 ?_
    rw [rounds_succ]
    go_wp2
    go_region
    go_wp2
    rw [rounds_succ]
    go_wp2
    refine wp_loop_rounds 1 ?_
    rw [rounds_succ]
    go_wp2
    have g1 := fun K V T => (HR.out K V T).c1
    have g3 := fun K V T => (HR.out K V T).c3
    unfold W4 W1 at g1 g3
    go_region
    clear g1 g3
    go_wp2
    go_end0
    exact ⟨rfl, ex_one HR.out _ _ _ _ _ _⟩

end Go.Proofs.Ybulkexnkw
