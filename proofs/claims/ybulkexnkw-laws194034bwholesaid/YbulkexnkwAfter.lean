/-
  The law's own check 'after' (each by program out of one text).
-/
import Derived.Test.YbulkexnkwSame
namespace Go.Proofs.Ybulkexnkw
open Go.RowKit
set_option linter.unusedVariables false

set_option maxHeartbeats 1600000 in
theorem after12_first (ob oo kb tb vb kc tc vc m : Nat) (kv vv tv : Value) (ks ts : List Int) (ps : List (Option Nat)) (w : World) (hm : m ≤ 999998) (hk : ks.length = m + 2) (ht : ts.length = m + 2) (hp : ps.length = m + 2) (ck : m + 2 ≤ kc) (ct : m + 2 ≤ tc) (cv : m + 2 ≤ vc)
    (h0 : w.cell? ⟨ob, oo, none⟩ = some kv) (h1 : w.cell? ⟨ob, oo + 1, none⟩ = some vv) (h2 : w.cell? ⟨ob, oo + 2, none⟩ = some tv)
    (h3 : w.cell? ⟨ob, oo + 3, none⟩ = some (.int .i64 0))
    (rk : RowAt w kb (ints ks)) (rt : RowAt w tb (ints ts)) (rp : RowAt w vb (ptrs ps))
    (k1 : Vw w kv (ints (ks.drop 1))) (t1 : Vw w tv (ints (ts.drop 1))) (p1 : Vw w vv (ptrs (ps.drop 1))) :
    Calls Yba.prog 12 #[.pointer (some ⟨ob, oo, none⟩), .slice (some ⟨kb, 0, none⟩) (m + 2) kc, .slice (some ⟨tb, 0, none⟩) (m + 2) tc, .slice (some ⟨vb, 0, none⟩) (m + 2) vc, .int .i64 0] w fun e w' => e = .returned (.bool true) ∧ Below w.heap.size w w' := by
  have hkc : 1 < kc := by omega
  have htc : 1 < tc := by omega
  have hvc : 1 < vc := by omega
  have k1' : Vw w (.slice (some ⟨kb, 1, none⟩) (m + 1) (kc - 1)) (ints (ks.drop 1)) := vw_drop_ints rk hk _
  have t1' : Vw w (.slice (some ⟨tb, 1, none⟩) (m + 1) (tc - 1)) (ints (ts.drop 1)) := vw_drop_ints rt ht _
  have p1' : Vw w (.slice (some ⟨vb, 1, none⟩) (m + 1) (vc - 1)) (ptrs (ps.drop 1)) := vw_drop_ptrs rp hp _
  have hlk : (ints (ks.drop 1)).length = m + 1 := by rw [ints_len]; simp [hk]
  have K' : Hid (∀ q, Calls Yba.prog 35 #[kv, .slice (some ⟨kb, 1, none⟩) (m + 1) (kc - 1)] (w.drewN q) fun e w' => e = .returned (.bool true) ∧ ∃ r, (w.drewN q).drewN r = w') := fun q => equal35_same _ kv _ (w.drewN q) k1 k1' (by simp [hk]; omega)
  have T' : Hid (∀ q, Calls Yba.prog 35 #[tv, .slice (some ⟨tb, 1, none⟩) (m + 1) (tc - 1)] (w.drewN q) fun e w' => e = .returned (.bool true) ∧ ∃ r, (w.drewN q).drewN r = w') := fun q => equal35_same _ tv _ (w.drewN q) t1 t1' (by simp [ht]; omega)
  have P' : Hid (∀ q, Calls Yba.prog 36 #[vv, .slice (some ⟨vb, 1, none⟩) (m + 1) (vc - 1)] (w.drewN q) fun e w' => e = .returned (.bool true) ∧ ∃ r, (w.drewN q).drewN r = w') := fun q => equal36_same _ vv _ (w.drewN q) p1 p1' (by simp [hp]; omega)
  obtain ⟨ka, kcc, ekv⟩ := vw_len k1
  rw [hlk] at ekv
  subst ekv
  clear k1 k1' t1 t1' p1 p1' rk rt rp hk ht hp hlk
  go_enter Yba.func12, Yba.ntmps12
  go_wp2
  go_quiet (fail)
  go_wp2_with fail
  refine (K'.out _).mono ?_
  rintro e w' ⟨rfl, q, rfl⟩
  rw [drewN_drewN]
  go_wp2_with fail
  refine (T'.out _).mono ?_
  rintro e w' ⟨rfl, q2, rfl⟩
  rw [drewN_drewN]
  go_wp2_with fail
  refine (P'.out _).mono ?_
  rintro e w' ⟨rfl, q3, rfl⟩
  rw [drewN_drewN]
  go_wp2
  go_ret
  exact ⟨rfl, below_drewN _ _⟩

set_option maxHeartbeats 1600000 in
theorem after12_last (ob oo kb tb vb kc tc vc m : Nat) (kv vv tv : Value) (ks ts : List Int) (ps : List (Option Nat)) (w : World) (hm : m ≤ 999998) (hk : ks.length = m + 2) (ht : ts.length = m + 2) (hp : ps.length = m + 2) (ck : m + 2 ≤ kc) (ct : m + 2 ≤ tc) (cv : m + 2 ≤ vc)
    (h0 : w.cell? ⟨ob, oo, none⟩ = some kv) (h1 : w.cell? ⟨ob, oo + 1, none⟩ = some vv) (h2 : w.cell? ⟨ob, oo + 2, none⟩ = some tv)
    (h3 : w.cell? ⟨ob, oo + 3, none⟩ = some (.int .i64 0))
    (rk : RowAt w kb (ints ks)) (rt : RowAt w tb (ints ts)) (rp : RowAt w vb (ptrs ps))
    (k1 : Vw w kv (ints (ks.take (m + 1)))) (t1 : Vw w tv (ints (ts.take (m + 1)))) (p1 : Vw w vv (ptrs (ps.take (m + 1)))) :
    Calls Yba.prog 12 #[.pointer (some ⟨ob, oo, none⟩), .slice (some ⟨kb, 0, none⟩) (m + 2) kc, .slice (some ⟨tb, 0, none⟩) (m + 2) tc, .slice (some ⟨vb, 0, none⟩) (m + 2) vc, .int .i64 ((m + 1 : Nat) : Int)] w fun e w' => e = .returned (.bool true) ∧ Below w.heap.size w w' := by
  have hkc : 1 < kc := by omega
  have htc : 1 < tc := by omega
  have hvc : 1 < vc := by omega
  have k1' : Vw w (.slice (some ⟨kb, 0, none⟩) (m + 1) kc) (ints (ks.take (m + 1))) := vw_take_ints rk hk _
  have t1' : Vw w (.slice (some ⟨tb, 0, none⟩) (m + 1) tc) (ints (ts.take (m + 1))) := vw_take_ints rt ht _
  have p1' : Vw w (.slice (some ⟨vb, 0, none⟩) (m + 1) vc) (ptrs (ps.take (m + 1))) := vw_take_ptrs rp hp _
  have hlk : (ints (ks.take (m + 1))).length = m + 1 := by rw [ints_len]; simp [hk]
  have K' : Hid (∀ q, Calls Yba.prog 35 #[kv, .slice (some ⟨kb, 0, none⟩) (m + 1) kc] (w.drewN q) fun e w' => e = .returned (.bool true) ∧ ∃ r, (w.drewN q).drewN r = w') := fun q => equal35_same _ kv _ (w.drewN q) k1 k1' (by simp [hk]; omega)
  have T' : Hid (∀ q, Calls Yba.prog 35 #[tv, .slice (some ⟨tb, 0, none⟩) (m + 1) tc] (w.drewN q) fun e w' => e = .returned (.bool true) ∧ ∃ r, (w.drewN q).drewN r = w') := fun q => equal35_same _ tv _ (w.drewN q) t1 t1' (by simp [ht]; omega)
  have P' : Hid (∀ q, Calls Yba.prog 36 #[vv, .slice (some ⟨vb, 0, none⟩) (m + 1) vc] (w.drewN q) fun e w' => e = .returned (.bool true) ∧ ∃ r, (w.drewN q).drewN r = w') := fun q => equal36_same _ vv _ (w.drewN q) p1 p1' (by simp [hp]; omega)
  obtain ⟨ka, kcc, ekv⟩ := vw_len k1
  rw [hlk] at ekv
  subst ekv
  clear k1 k1' t1 t1' p1 p1' rk rt rp hk ht hp hlk
  go_enter Yba.func12, Yba.ntmps12
  go_wp2
  go_quiet (fail)
  go_wp2_with fail
  refine (K'.out _).mono ?_
  rintro e w' ⟨rfl, q, rfl⟩
  rw [drewN_drewN]
  go_wp2_with fail
  refine (T'.out _).mono ?_
  rintro e w' ⟨rfl, q2, rfl⟩
  rw [drewN_drewN]
  go_wp2_with fail
  refine (P'.out _).mono ?_
  rintro e w' ⟨rfl, q3, rfl⟩
  rw [drewN_drewN]
  go_wp2
  go_ret
  exact ⟨rfl, below_drewN _ _⟩

set_option maxHeartbeats 3200000 in
theorem after12_one (ob oo kb tb vb kc tc vc : Nat) (kv vv tv : Value) (w : World) (ck : 1 ≤ kc) (ct : 1 ≤ tc) (cv : 1 ≤ vc)
    (h0 : w.cell? ⟨ob, oo, none⟩ = some kv) (h1 : w.cell? ⟨ob, oo + 1, none⟩ = some vv) (h2 : w.cell? ⟨ob, oo + 2, none⟩ = some tv)
    (h3 : w.cell? ⟨ob, oo + 3, none⟩ = some (.int .i64 0)) (k1 : Vw w kv (ints [])) (t1 : Vw w tv (ints [])) (p1 : Vw w vv (ptrs [])) :
    Calls Yba.prog 12 #[.pointer (some ⟨ob, oo, none⟩), .slice (some ⟨kb, 0, none⟩) 1 kc, .slice (some ⟨tb, 0, none⟩) 1 tc, .slice (some ⟨vb, 0, none⟩) 1 vc, .int .i64 0] w fun e w' => e = .returned (.bool true) ∧ Below w.heap.size w w' := by
  have K' : Hid (∀ q a c, Calls Yba.prog 35 #[kv, .slice a 0 c] (w.drewN q) fun e w' => e = .returned (.bool true) ∧ ∃ r, (w.drewN q).drewN r = w') := fun q a c => equal35_same [] kv _ (w.drewN q) k1 (vw_empty _ a c) (by simp)
  have T' : Hid (∀ q a c, Calls Yba.prog 35 #[tv, .slice a 0 c] (w.drewN q) fun e w' => e = .returned (.bool true) ∧ ∃ r, (w.drewN q).drewN r = w') := fun q a c => equal35_same [] tv _ (w.drewN q) t1 (vw_empty _ a c) (by simp)
  have P' : Hid (∀ q a c, Calls Yba.prog 36 #[vv, .slice a 0 c] (w.drewN q) fun e w' => e = .returned (.bool true) ∧ ∃ r, (w.drewN q).drewN r = w') := fun q a c => equal36_same [] vv _ (w.drewN q) p1 (vw_empty _ a c) (by simp)
  obtain ⟨ka, kcc, ekv⟩ := vw_len k1
  have ekv' : kv = .slice ka 0 kcc := ekv
  clear ekv
  subst ekv'
  clear k1 t1 p1
  rcases (show kc = 1 ∨ 1 < kc by omega) with e1 | e1 <;> rcases (show vc = 1 ∨ 1 < vc by omega) with e2 | e2 <;> rcases (show tc = 1 ∨ 1 < tc by omega) with e3 | e3
  all_goals
    try subst e1
    try subst e2
    try subst e3
    go_enter Yba.func12, Yba.ntmps12
    go_wp2
    go_quiet (fail)
    go_wp2_with fail
    refine (K'.out _ _ _).mono ?_
    rintro e w' ⟨rfl, q, rfl⟩
    rw [drewN_drewN]
    go_wp2_with fail
    refine (T'.out _ _ _).mono ?_
    rintro e w' ⟨rfl, q2, rfl⟩
    rw [drewN_drewN]
    go_wp2_with fail
    refine (P'.out _ _ _).mono ?_
    rintro e w' ⟨rfl, q3, rfl⟩
    rw [drewN_drewN]
    go_wp2
    go_ret
    exact ⟨rfl, below_drewN _ _⟩

set_option maxHeartbeats 1600000 in
theorem after12_in (ob oo kb tb vb kc tc vc n i : Nat) (kv vv tv : Value) (ks ts : List Int) (ps : List (Option Nat)) (w : World) (hm : n ≤ 1000000) (hk : ks.length = n) (ht : ts.length = n) (hp : ps.length = n) (hi0 : 0 < i) (hi1 : i + 1 < n)
    (h0 : w.cell? ⟨ob, oo, none⟩ = some kv) (h1 : w.cell? ⟨ob, oo + 1, none⟩ = some vv) (h2 : w.cell? ⟨ob, oo + 2, none⟩ = some tv)
    (h3 : w.cell? ⟨ob, oo + 3, none⟩ = some (.int .i64 1))
    (rk : RowAt w kb (ints ks)) (rt : RowAt w tb (ints ts)) (rp : RowAt w vb (ptrs ps))
    (k1 : Vw w kv (ints ks)) (t1 : Vw w tv (ints ts)) (p1 : Vw w vv (ptrs (ps.set i none))) :
    Calls Yba.prog 12 #[.pointer (some ⟨ob, oo, none⟩), .slice (some ⟨kb, 0, none⟩) n kc, .slice (some ⟨tb, 0, none⟩) n tc, .slice (some ⟨vb, 0, none⟩) n vc, .int .i64 i] w fun e w' => e = .returned (.bool true) ∧ Below w.heap.size w w' := by
  have hob : ob < w.heap.size := lt_of_cell h0
  have CL := clone8_some ⟨vb, 0, none⟩ n vc (ptrs ps) w (by rw [ptrs_len, hp]) hm (ptrs_one ps) (row_add rp) (fun h => lt_of_row rp (by rw [ptrs_len, hp]; exact h))
  have C' : Hid (Calls Yba.prog 8 #[.slice (some ⟨vb, 0, none⟩) n vc] w fun e w' => ∃ v', e = .returned v' ∧ w'.ownsRow w.heap.size 40 1 v' n (ptrs ps) ∧ v' ≠ .slice none 0 0 ∧ Below w.heap.size w w') := CL
  have k1' : Vw w (.slice (some ⟨kb, 0, none⟩) n kc) (ints ks) := vw_ints rk hk _
  have t1' : Vw w (.slice (some ⟨tb, 0, none⟩) n tc) (ints ts) := vw_ints rt ht _
  have K' : Hid (∀ W : World, (∀ a : Addr, a.block < w.heap.size → W.cell? a = w.cell? a) → Calls Yba.prog 35 #[kv, .slice (some ⟨kb, 0, none⟩) n kc] W fun e w' => e = .returned (.bool true) ∧ ∃ r, W.drewN r = w') := fun W hW => equal35_same ks kv _ W (vw_below k1 hW) (vw_below k1' hW) (by omega)
  have T' : Hid (∀ W : World, (∀ a : Addr, a.block < w.heap.size → W.cell? a = w.cell? a) → Calls Yba.prog 35 #[tv, .slice (some ⟨tb, 0, none⟩) n tc] W fun e w' => e = .returned (.bool true) ∧ ∃ r, W.drewN r = w') := fun W hW => equal35_same ts tv _ W (vw_below t1 hW) (vw_below t1' hW) (by omega)
  have P' : Hid (∀ (W : World) g c, (∀ a : Addr, a.block < w.heap.size → W.cell? a = w.cell? a) → RowAt W g (ptrs (ps.set i none)) → Calls Yba.prog 36 #[vv, .slice (some ⟨g, 0, none⟩) n c] W fun e w' => e = .returned (.bool true) ∧ ∃ r, W.drewN r = w') := fun W g c hW hr => equal36_same _ vv _ W (vw_below p1 hW) (vw_ptrs hr (by simp [hp]) _) (by simp; omega)
  have hlk : (ints ks).length = n := by rw [ints_len]; exact hk
  obtain ⟨ka, kcc, ekv⟩ := vw_len k1
  rw [hlk] at ekv
  subst ekv
  have HP : Hid (ps.length = n) := hp
  clear CL k1 k1' t1 t1' p1 rk rt rp hk ht hlk hp
  go_enter Yba.func12, Yba.ntmps12
  go_wp2_with fail
  refine C'.out.mono ?_
  rintro e w1 ⟨v', rfl, hown, hne, hB⟩
  obtain ⟨g, c, hv, hg, hgs, ⟨u0, hcell⟩, hfz⟩ := own_parts (i := i) hown hne (by omega)
  subst hv
  have hrow : RowAt w1 g (ptrs ps) := own_row hown (by rw [ptrs_len, HP.out])
  have hW : ∀ a : Addr, a.block < w.heap.size → (w1.setCell ⟨g, i, none⟩ (.pointer none)).cell? a = w.cell? a := by
    intro a ha
    rw [World.cell?_setCell_other]
    · exact hB.cell ha
    · intro e; rw [← e] at ha; simp at ha; omega
  have c0 := (hW ⟨ob, oo, none⟩ hob).trans h0
  have c1 := (hW ⟨ob, oo + 1, none⟩ hob).trans h1
  have c2 := (hW ⟨ob, oo + 2, none⟩ hob).trans h2
  have c3 := (hW ⟨ob, oo + 3, none⟩ hob).trans h3
  have HR : Hid (RowAt (w1.setCell ⟨g, i, none⟩ (.pointer none)) g (ptrs (ps.set i none))) := row_set hrow (by rw [HP.out]; omega)
  have HW : Hid (∀ a : Addr, a.block < w.heap.size → (w1.setCell ⟨g, i, none⟩ (.pointer none)).cell? a = w.cell? a) := hW
  have hBB : Below w.heap.size w (w1.setCell ⟨g, i, none⟩ (.pointer none)) := hB.setCell hg _
  clear hW hown hrow hne
  obtain ⟨W2, hW2⟩ : ∃ W2, w1.setCell ⟨g, i, none⟩ (.pointer none) = W2 := ⟨_, rfl⟩
  rw [hW2] at c0 c1 c2 c3 HR HW hBB
  go_wp2_with fail
  refine (K'.out _ HW.out).mono ?_
  rintro e w' ⟨rfl, q, rfl⟩
  clear hW2
  go_wp2_with fail
  refine (T'.out (W2.drewN _) (fun a ha => HW.out a ha)).mono ?_
  rintro e w' ⟨rfl, q2, rfl⟩
  go_wp2_with fail
  refine (P'.out (W2.drewN _) _ _ (fun a ha => HW.out a ha) (fun j hj => HR.out j hj)).mono ?_
  rintro e w' ⟨rfl, q3, rfl⟩
  go_wp2
  go_ret
  exact ⟨rfl, below_more hBB _⟩

set_option maxHeartbeats 1600000 in
theorem after16_first (ob oo kb tb vb kc tc vc m : Nat) (kv vv tv : Value) (ks ts : List Int) (ps : List (Option Nat)) (w : World) (hm : m ≤ 999998) (hk : ks.length = m + 2) (ht : ts.length = m + 2) (hp : ps.length = m + 2) (ck : m + 2 ≤ kc) (ct : m + 2 ≤ tc) (cv : m + 2 ≤ vc)
    (h0 : w.cell? ⟨ob, oo, none⟩ = some kv) (h1 : w.cell? ⟨ob, oo + 1, none⟩ = some vv) (h2 : w.cell? ⟨ob, oo + 2, none⟩ = some tv)
    (h3 : w.cell? ⟨ob, oo + 3, none⟩ = some (.int .i64 0))
    (rk : RowAt w kb (ints ks)) (rt : RowAt w tb (ints ts)) (rp : RowAt w vb (ptrs ps))
    (k1 : Vw w kv (ints (ks.drop 1))) (t1 : Vw w tv (ints (ts.drop 1))) (p1 : Vw w vv (ptrs (ps.drop 1))) :
    Calls Yba.prog 16 #[.pointer (some ⟨ob, oo, none⟩), .slice (some ⟨kb, 0, none⟩) (m + 2) kc, .slice (some ⟨tb, 0, none⟩) (m + 2) tc, .slice (some ⟨vb, 0, none⟩) (m + 2) vc, .int .i64 0] w fun e w' => e = .returned (.bool true) ∧ Below w.heap.size w w' := by
  have hkc : 1 < kc := by omega
  have htc : 1 < tc := by omega
  have hvc : 1 < vc := by omega
  have k1' : Vw w (.slice (some ⟨kb, 1, none⟩) (m + 1) (kc - 1)) (ints (ks.drop 1)) := vw_drop_ints rk hk _
  have t1' : Vw w (.slice (some ⟨tb, 1, none⟩) (m + 1) (tc - 1)) (ints (ts.drop 1)) := vw_drop_ints rt ht _
  have p1' : Vw w (.slice (some ⟨vb, 1, none⟩) (m + 1) (vc - 1)) (ptrs (ps.drop 1)) := vw_drop_ptrs rp hp _
  have hlk : (ints (ks.drop 1)).length = m + 1 := by rw [ints_len]; simp [hk]
  have K' : Hid (∀ q, Calls Yba.prog 35 #[kv, .slice (some ⟨kb, 1, none⟩) (m + 1) (kc - 1)] (w.drewN q) fun e w' => e = .returned (.bool true) ∧ ∃ r, (w.drewN q).drewN r = w') := fun q => equal35_same _ kv _ (w.drewN q) k1 k1' (by simp [hk]; omega)
  have T' : Hid (∀ q, Calls Yba.prog 35 #[tv, .slice (some ⟨tb, 1, none⟩) (m + 1) (tc - 1)] (w.drewN q) fun e w' => e = .returned (.bool true) ∧ ∃ r, (w.drewN q).drewN r = w') := fun q => equal35_same _ tv _ (w.drewN q) t1 t1' (by simp [ht]; omega)
  have P' : Hid (∀ q, Calls Yba.prog 38 #[vv, .slice (some ⟨vb, 1, none⟩) (m + 1) (vc - 1)] (w.drewN q) fun e w' => e = .returned (.bool true) ∧ ∃ r, (w.drewN q).drewN r = w') := fun q => equal38_same _ vv _ (w.drewN q) p1 p1' (by simp [hp]; omega)
  obtain ⟨ka, kcc, ekv⟩ := vw_len k1
  rw [hlk] at ekv
  subst ekv
  clear k1 k1' t1 t1' p1 p1' rk rt rp hk ht hp hlk
  go_enter Yba.func16, Yba.ntmps16
  go_wp2
  go_quiet (fail)
  go_wp2_with fail
  refine (K'.out _).mono ?_
  rintro e w' ⟨rfl, q, rfl⟩
  rw [drewN_drewN]
  go_wp2_with fail
  refine (T'.out _).mono ?_
  rintro e w' ⟨rfl, q2, rfl⟩
  rw [drewN_drewN]
  go_wp2_with fail
  refine (P'.out _).mono ?_
  rintro e w' ⟨rfl, q3, rfl⟩
  rw [drewN_drewN]
  go_wp2
  go_ret
  exact ⟨rfl, below_drewN _ _⟩

set_option maxHeartbeats 1600000 in
theorem after16_last (ob oo kb tb vb kc tc vc m : Nat) (kv vv tv : Value) (ks ts : List Int) (ps : List (Option Nat)) (w : World) (hm : m ≤ 999998) (hk : ks.length = m + 2) (ht : ts.length = m + 2) (hp : ps.length = m + 2) (ck : m + 2 ≤ kc) (ct : m + 2 ≤ tc) (cv : m + 2 ≤ vc)
    (h0 : w.cell? ⟨ob, oo, none⟩ = some kv) (h1 : w.cell? ⟨ob, oo + 1, none⟩ = some vv) (h2 : w.cell? ⟨ob, oo + 2, none⟩ = some tv)
    (h3 : w.cell? ⟨ob, oo + 3, none⟩ = some (.int .i64 0))
    (rk : RowAt w kb (ints ks)) (rt : RowAt w tb (ints ts)) (rp : RowAt w vb (ptrs ps))
    (k1 : Vw w kv (ints (ks.take (m + 1)))) (t1 : Vw w tv (ints (ts.take (m + 1)))) (p1 : Vw w vv (ptrs (ps.take (m + 1)))) :
    Calls Yba.prog 16 #[.pointer (some ⟨ob, oo, none⟩), .slice (some ⟨kb, 0, none⟩) (m + 2) kc, .slice (some ⟨tb, 0, none⟩) (m + 2) tc, .slice (some ⟨vb, 0, none⟩) (m + 2) vc, .int .i64 ((m + 1 : Nat) : Int)] w fun e w' => e = .returned (.bool true) ∧ Below w.heap.size w w' := by
  have hkc : 1 < kc := by omega
  have htc : 1 < tc := by omega
  have hvc : 1 < vc := by omega
  have k1' : Vw w (.slice (some ⟨kb, 0, none⟩) (m + 1) kc) (ints (ks.take (m + 1))) := vw_take_ints rk hk _
  have t1' : Vw w (.slice (some ⟨tb, 0, none⟩) (m + 1) tc) (ints (ts.take (m + 1))) := vw_take_ints rt ht _
  have p1' : Vw w (.slice (some ⟨vb, 0, none⟩) (m + 1) vc) (ptrs (ps.take (m + 1))) := vw_take_ptrs rp hp _
  have hlk : (ints (ks.take (m + 1))).length = m + 1 := by rw [ints_len]; simp [hk]
  have K' : Hid (∀ q, Calls Yba.prog 35 #[kv, .slice (some ⟨kb, 0, none⟩) (m + 1) kc] (w.drewN q) fun e w' => e = .returned (.bool true) ∧ ∃ r, (w.drewN q).drewN r = w') := fun q => equal35_same _ kv _ (w.drewN q) k1 k1' (by simp [hk]; omega)
  have T' : Hid (∀ q, Calls Yba.prog 35 #[tv, .slice (some ⟨tb, 0, none⟩) (m + 1) tc] (w.drewN q) fun e w' => e = .returned (.bool true) ∧ ∃ r, (w.drewN q).drewN r = w') := fun q => equal35_same _ tv _ (w.drewN q) t1 t1' (by simp [ht]; omega)
  have P' : Hid (∀ q, Calls Yba.prog 38 #[vv, .slice (some ⟨vb, 0, none⟩) (m + 1) vc] (w.drewN q) fun e w' => e = .returned (.bool true) ∧ ∃ r, (w.drewN q).drewN r = w') := fun q => equal38_same _ vv _ (w.drewN q) p1 p1' (by simp [hp]; omega)
  obtain ⟨ka, kcc, ekv⟩ := vw_len k1
  rw [hlk] at ekv
  subst ekv
  clear k1 k1' t1 t1' p1 p1' rk rt rp hk ht hp hlk
  go_enter Yba.func16, Yba.ntmps16
  go_wp2
  go_quiet (fail)
  go_wp2_with fail
  refine (K'.out _).mono ?_
  rintro e w' ⟨rfl, q, rfl⟩
  rw [drewN_drewN]
  go_wp2_with fail
  refine (T'.out _).mono ?_
  rintro e w' ⟨rfl, q2, rfl⟩
  rw [drewN_drewN]
  go_wp2_with fail
  refine (P'.out _).mono ?_
  rintro e w' ⟨rfl, q3, rfl⟩
  rw [drewN_drewN]
  go_wp2
  go_ret
  exact ⟨rfl, below_drewN _ _⟩

set_option maxHeartbeats 3200000 in
theorem after16_one (ob oo kb tb vb kc tc vc : Nat) (kv vv tv : Value) (w : World) (ck : 1 ≤ kc) (ct : 1 ≤ tc) (cv : 1 ≤ vc)
    (h0 : w.cell? ⟨ob, oo, none⟩ = some kv) (h1 : w.cell? ⟨ob, oo + 1, none⟩ = some vv) (h2 : w.cell? ⟨ob, oo + 2, none⟩ = some tv)
    (h3 : w.cell? ⟨ob, oo + 3, none⟩ = some (.int .i64 0)) (k1 : Vw w kv (ints [])) (t1 : Vw w tv (ints [])) (p1 : Vw w vv (ptrs [])) :
    Calls Yba.prog 16 #[.pointer (some ⟨ob, oo, none⟩), .slice (some ⟨kb, 0, none⟩) 1 kc, .slice (some ⟨tb, 0, none⟩) 1 tc, .slice (some ⟨vb, 0, none⟩) 1 vc, .int .i64 0] w fun e w' => e = .returned (.bool true) ∧ Below w.heap.size w w' := by
  have K' : Hid (∀ q a c, Calls Yba.prog 35 #[kv, .slice a 0 c] (w.drewN q) fun e w' => e = .returned (.bool true) ∧ ∃ r, (w.drewN q).drewN r = w') := fun q a c => equal35_same [] kv _ (w.drewN q) k1 (vw_empty _ a c) (by simp)
  have T' : Hid (∀ q a c, Calls Yba.prog 35 #[tv, .slice a 0 c] (w.drewN q) fun e w' => e = .returned (.bool true) ∧ ∃ r, (w.drewN q).drewN r = w') := fun q a c => equal35_same [] tv _ (w.drewN q) t1 (vw_empty _ a c) (by simp)
  have P' : Hid (∀ q a c, Calls Yba.prog 38 #[vv, .slice a 0 c] (w.drewN q) fun e w' => e = .returned (.bool true) ∧ ∃ r, (w.drewN q).drewN r = w') := fun q a c => equal38_same [] vv _ (w.drewN q) p1 (vw_empty _ a c) (by simp)
  obtain ⟨ka, kcc, ekv⟩ := vw_len k1
  have ekv' : kv = .slice ka 0 kcc := ekv
  clear ekv
  subst ekv'
  clear k1 t1 p1
  rcases (show kc = 1 ∨ 1 < kc by omega) with e1 | e1 <;> rcases (show vc = 1 ∨ 1 < vc by omega) with e2 | e2 <;> rcases (show tc = 1 ∨ 1 < tc by omega) with e3 | e3
  all_goals
    try subst e1
    try subst e2
    try subst e3
    go_enter Yba.func16, Yba.ntmps16
    go_wp2
    go_quiet (fail)
    go_wp2_with fail
    refine (K'.out _ _ _).mono ?_
    rintro e w' ⟨rfl, q, rfl⟩
    rw [drewN_drewN]
    go_wp2_with fail
    refine (T'.out _ _ _).mono ?_
    rintro e w' ⟨rfl, q2, rfl⟩
    rw [drewN_drewN]
    go_wp2_with fail
    refine (P'.out _ _ _).mono ?_
    rintro e w' ⟨rfl, q3, rfl⟩
    rw [drewN_drewN]
    go_wp2
    go_ret
    exact ⟨rfl, below_drewN _ _⟩

set_option maxHeartbeats 1600000 in
theorem after16_in (ob oo kb tb vb kc tc vc n i : Nat) (kv vv tv : Value) (ks ts : List Int) (ps : List (Option Nat)) (w : World) (hm : n ≤ 1000000) (hk : ks.length = n) (ht : ts.length = n) (hp : ps.length = n) (hi0 : 0 < i) (hi1 : i + 1 < n)
    (h0 : w.cell? ⟨ob, oo, none⟩ = some kv) (h1 : w.cell? ⟨ob, oo + 1, none⟩ = some vv) (h2 : w.cell? ⟨ob, oo + 2, none⟩ = some tv)
    (h3 : w.cell? ⟨ob, oo + 3, none⟩ = some (.int .i64 1))
    (rk : RowAt w kb (ints ks)) (rt : RowAt w tb (ints ts)) (rp : RowAt w vb (ptrs ps))
    (k1 : Vw w kv (ints ks)) (t1 : Vw w tv (ints ts)) (p1 : Vw w vv (ptrs (ps.set i none))) :
    Calls Yba.prog 16 #[.pointer (some ⟨ob, oo, none⟩), .slice (some ⟨kb, 0, none⟩) n kc, .slice (some ⟨tb, 0, none⟩) n tc, .slice (some ⟨vb, 0, none⟩) n vc, .int .i64 i] w fun e w' => e = .returned (.bool true) ∧ Below w.heap.size w w' := by
  have hob : ob < w.heap.size := lt_of_cell h0
  have CL := clone9_some ⟨vb, 0, none⟩ n vc (ptrs ps) w (by rw [ptrs_len, hp]) hm (ptrs_one ps) (row_add rp) (fun h => lt_of_row rp (by rw [ptrs_len, hp]; exact h))
  have C' : Hid (Calls Yba.prog 9 #[.slice (some ⟨vb, 0, none⟩) n vc] w fun e w' => ∃ v', e = .returned v' ∧ w'.ownsRow w.heap.size 33 1 v' n (ptrs ps) ∧ v' ≠ .slice none 0 0 ∧ Below w.heap.size w w') := CL
  have k1' : Vw w (.slice (some ⟨kb, 0, none⟩) n kc) (ints ks) := vw_ints rk hk _
  have t1' : Vw w (.slice (some ⟨tb, 0, none⟩) n tc) (ints ts) := vw_ints rt ht _
  have K' : Hid (∀ W : World, (∀ a : Addr, a.block < w.heap.size → W.cell? a = w.cell? a) → Calls Yba.prog 35 #[kv, .slice (some ⟨kb, 0, none⟩) n kc] W fun e w' => e = .returned (.bool true) ∧ ∃ r, W.drewN r = w') := fun W hW => equal35_same ks kv _ W (vw_below k1 hW) (vw_below k1' hW) (by omega)
  have T' : Hid (∀ W : World, (∀ a : Addr, a.block < w.heap.size → W.cell? a = w.cell? a) → Calls Yba.prog 35 #[tv, .slice (some ⟨tb, 0, none⟩) n tc] W fun e w' => e = .returned (.bool true) ∧ ∃ r, W.drewN r = w') := fun W hW => equal35_same ts tv _ W (vw_below t1 hW) (vw_below t1' hW) (by omega)
  have P' : Hid (∀ (W : World) g c, (∀ a : Addr, a.block < w.heap.size → W.cell? a = w.cell? a) → RowAt W g (ptrs (ps.set i none)) → Calls Yba.prog 38 #[vv, .slice (some ⟨g, 0, none⟩) n c] W fun e w' => e = .returned (.bool true) ∧ ∃ r, W.drewN r = w') := fun W g c hW hr => equal38_same _ vv _ W (vw_below p1 hW) (vw_ptrs hr (by simp [hp]) _) (by simp; omega)
  have hlk : (ints ks).length = n := by rw [ints_len]; exact hk
  obtain ⟨ka, kcc, ekv⟩ := vw_len k1
  rw [hlk] at ekv
  subst ekv
  have HP : Hid (ps.length = n) := hp
  clear CL k1 k1' t1 t1' p1 rk rt rp hk ht hlk hp
  go_enter Yba.func16, Yba.ntmps16
  go_wp2_with fail
  refine C'.out.mono ?_
  rintro e w1 ⟨v', rfl, hown, hne, hB⟩
  obtain ⟨g, c, hv, hg, hgs, ⟨u0, hcell⟩, hfz⟩ := own_parts (i := i) hown hne (by omega)
  subst hv
  have hrow : RowAt w1 g (ptrs ps) := own_row hown (by rw [ptrs_len, HP.out])
  have hW : ∀ a : Addr, a.block < w.heap.size → (w1.setCell ⟨g, i, none⟩ (.pointer none)).cell? a = w.cell? a := by
    intro a ha
    rw [World.cell?_setCell_other]
    · exact hB.cell ha
    · intro e; rw [← e] at ha; simp at ha; omega
  have c0 := (hW ⟨ob, oo, none⟩ hob).trans h0
  have c1 := (hW ⟨ob, oo + 1, none⟩ hob).trans h1
  have c2 := (hW ⟨ob, oo + 2, none⟩ hob).trans h2
  have c3 := (hW ⟨ob, oo + 3, none⟩ hob).trans h3
  have HR : Hid (RowAt (w1.setCell ⟨g, i, none⟩ (.pointer none)) g (ptrs (ps.set i none))) := row_set hrow (by rw [HP.out]; omega)
  have HW : Hid (∀ a : Addr, a.block < w.heap.size → (w1.setCell ⟨g, i, none⟩ (.pointer none)).cell? a = w.cell? a) := hW
  have hBB : Below w.heap.size w (w1.setCell ⟨g, i, none⟩ (.pointer none)) := hB.setCell hg _
  clear hW hown hrow hne
  obtain ⟨W2, hW2⟩ : ∃ W2, w1.setCell ⟨g, i, none⟩ (.pointer none) = W2 := ⟨_, rfl⟩
  rw [hW2] at c0 c1 c2 c3 HR HW hBB
  go_wp2_with fail
  refine (K'.out _ HW.out).mono ?_
  rintro e w' ⟨rfl, q, rfl⟩
  clear hW2
  go_wp2_with fail
  refine (T'.out (W2.drewN _) (fun a ha => HW.out a ha)).mono ?_
  rintro e w' ⟨rfl, q2, rfl⟩
  go_wp2_with fail
  refine (P'.out (W2.drewN _) _ _ (fun a ha => HW.out a ha) (fun j hj => HR.out j hj)).mono ?_
  rintro e w' ⟨rfl, q3, rfl⟩
  go_wp2
  go_ret
  exact ⟨rfl, below_more hBB _⟩

set_option maxHeartbeats 1600000 in
theorem after17_first (ob oo kb tb vb kc tc vc m : Nat) (kv vv tv : Value) (ks ts : List Int) (ps : List (Option Nat)) (w : World) (hm : m ≤ 999998) (hk : ks.length = m + 2) (ht : ts.length = m + 2) (hp : ps.length = m + 2) (ck : m + 2 ≤ kc) (ct : m + 2 ≤ tc) (cv : m + 2 ≤ vc)
    (h0 : w.cell? ⟨ob, oo, none⟩ = some kv) (h1 : w.cell? ⟨ob, oo + 1, none⟩ = some vv) (h2 : w.cell? ⟨ob, oo + 2, none⟩ = some tv)
    (h3 : w.cell? ⟨ob, oo + 3, none⟩ = some (.int .i64 0))
    (rk : RowAt w kb (ints ks)) (rt : RowAt w tb (ints ts)) (rp : RowAt w vb (ptrs ps))
    (k1 : Vw w kv (ints (ks.drop 1))) (t1 : Vw w tv (ints (ts.drop 1))) (p1 : Vw w vv (ptrs (ps.drop 1))) :
    Calls Yba.prog 17 #[.pointer (some ⟨ob, oo, none⟩), .slice (some ⟨kb, 0, none⟩) (m + 2) kc, .slice (some ⟨tb, 0, none⟩) (m + 2) tc, .slice (some ⟨vb, 0, none⟩) (m + 2) vc, .int .i64 0] w fun e w' => e = .returned (.bool true) ∧ Below w.heap.size w w' := by
  have hkc : 1 < kc := by omega
  have htc : 1 < tc := by omega
  have hvc : 1 < vc := by omega
  have k1' : Vw w (.slice (some ⟨kb, 1, none⟩) (m + 1) (kc - 1)) (ints (ks.drop 1)) := vw_drop_ints rk hk _
  have t1' : Vw w (.slice (some ⟨tb, 1, none⟩) (m + 1) (tc - 1)) (ints (ts.drop 1)) := vw_drop_ints rt ht _
  have p1' : Vw w (.slice (some ⟨vb, 1, none⟩) (m + 1) (vc - 1)) (ptrs (ps.drop 1)) := vw_drop_ptrs rp hp _
  have hlk : (ints (ks.drop 1)).length = m + 1 := by rw [ints_len]; simp [hk]
  have K' : Hid (∀ q, Calls Yba.prog 35 #[kv, .slice (some ⟨kb, 1, none⟩) (m + 1) (kc - 1)] (w.drewN q) fun e w' => e = .returned (.bool true) ∧ ∃ r, (w.drewN q).drewN r = w') := fun q => equal35_same _ kv _ (w.drewN q) k1 k1' (by simp [hk]; omega)
  have T' : Hid (∀ q, Calls Yba.prog 35 #[tv, .slice (some ⟨tb, 1, none⟩) (m + 1) (tc - 1)] (w.drewN q) fun e w' => e = .returned (.bool true) ∧ ∃ r, (w.drewN q).drewN r = w') := fun q => equal35_same _ tv _ (w.drewN q) t1 t1' (by simp [ht]; omega)
  have P' : Hid (∀ q, Calls Yba.prog 37 #[vv, .slice (some ⟨vb, 1, none⟩) (m + 1) (vc - 1)] (w.drewN q) fun e w' => e = .returned (.bool true) ∧ ∃ r, (w.drewN q).drewN r = w') := fun q => equal37_same _ vv _ (w.drewN q) p1 p1' (by simp [hp]; omega)
  obtain ⟨ka, kcc, ekv⟩ := vw_len k1
  rw [hlk] at ekv
  subst ekv
  clear k1 k1' t1 t1' p1 p1' rk rt rp hk ht hp hlk
  go_enter Yba.func17, Yba.ntmps17
  go_wp2
  go_quiet (fail)
  go_wp2_with fail
  refine (K'.out _).mono ?_
  rintro e w' ⟨rfl, q, rfl⟩
  rw [drewN_drewN]
  go_wp2_with fail
  refine (T'.out _).mono ?_
  rintro e w' ⟨rfl, q2, rfl⟩
  rw [drewN_drewN]
  go_wp2_with fail
  refine (P'.out _).mono ?_
  rintro e w' ⟨rfl, q3, rfl⟩
  rw [drewN_drewN]
  go_wp2
  go_ret
  exact ⟨rfl, below_drewN _ _⟩

set_option maxHeartbeats 1600000 in
theorem after17_last (ob oo kb tb vb kc tc vc m : Nat) (kv vv tv : Value) (ks ts : List Int) (ps : List (Option Nat)) (w : World) (hm : m ≤ 999998) (hk : ks.length = m + 2) (ht : ts.length = m + 2) (hp : ps.length = m + 2) (ck : m + 2 ≤ kc) (ct : m + 2 ≤ tc) (cv : m + 2 ≤ vc)
    (h0 : w.cell? ⟨ob, oo, none⟩ = some kv) (h1 : w.cell? ⟨ob, oo + 1, none⟩ = some vv) (h2 : w.cell? ⟨ob, oo + 2, none⟩ = some tv)
    (h3 : w.cell? ⟨ob, oo + 3, none⟩ = some (.int .i64 0))
    (rk : RowAt w kb (ints ks)) (rt : RowAt w tb (ints ts)) (rp : RowAt w vb (ptrs ps))
    (k1 : Vw w kv (ints (ks.take (m + 1)))) (t1 : Vw w tv (ints (ts.take (m + 1)))) (p1 : Vw w vv (ptrs (ps.take (m + 1)))) :
    Calls Yba.prog 17 #[.pointer (some ⟨ob, oo, none⟩), .slice (some ⟨kb, 0, none⟩) (m + 2) kc, .slice (some ⟨tb, 0, none⟩) (m + 2) tc, .slice (some ⟨vb, 0, none⟩) (m + 2) vc, .int .i64 ((m + 1 : Nat) : Int)] w fun e w' => e = .returned (.bool true) ∧ Below w.heap.size w w' := by
  have hkc : 1 < kc := by omega
  have htc : 1 < tc := by omega
  have hvc : 1 < vc := by omega
  have k1' : Vw w (.slice (some ⟨kb, 0, none⟩) (m + 1) kc) (ints (ks.take (m + 1))) := vw_take_ints rk hk _
  have t1' : Vw w (.slice (some ⟨tb, 0, none⟩) (m + 1) tc) (ints (ts.take (m + 1))) := vw_take_ints rt ht _
  have p1' : Vw w (.slice (some ⟨vb, 0, none⟩) (m + 1) vc) (ptrs (ps.take (m + 1))) := vw_take_ptrs rp hp _
  have hlk : (ints (ks.take (m + 1))).length = m + 1 := by rw [ints_len]; simp [hk]
  have K' : Hid (∀ q, Calls Yba.prog 35 #[kv, .slice (some ⟨kb, 0, none⟩) (m + 1) kc] (w.drewN q) fun e w' => e = .returned (.bool true) ∧ ∃ r, (w.drewN q).drewN r = w') := fun q => equal35_same _ kv _ (w.drewN q) k1 k1' (by simp [hk]; omega)
  have T' : Hid (∀ q, Calls Yba.prog 35 #[tv, .slice (some ⟨tb, 0, none⟩) (m + 1) tc] (w.drewN q) fun e w' => e = .returned (.bool true) ∧ ∃ r, (w.drewN q).drewN r = w') := fun q => equal35_same _ tv _ (w.drewN q) t1 t1' (by simp [ht]; omega)
  have P' : Hid (∀ q, Calls Yba.prog 37 #[vv, .slice (some ⟨vb, 0, none⟩) (m + 1) vc] (w.drewN q) fun e w' => e = .returned (.bool true) ∧ ∃ r, (w.drewN q).drewN r = w') := fun q => equal37_same _ vv _ (w.drewN q) p1 p1' (by simp [hp]; omega)
  obtain ⟨ka, kcc, ekv⟩ := vw_len k1
  rw [hlk] at ekv
  subst ekv
  clear k1 k1' t1 t1' p1 p1' rk rt rp hk ht hp hlk
  go_enter Yba.func17, Yba.ntmps17
  go_wp2
  go_quiet (fail)
  go_wp2_with fail
  refine (K'.out _).mono ?_
  rintro e w' ⟨rfl, q, rfl⟩
  rw [drewN_drewN]
  go_wp2_with fail
  refine (T'.out _).mono ?_
  rintro e w' ⟨rfl, q2, rfl⟩
  rw [drewN_drewN]
  go_wp2_with fail
  refine (P'.out _).mono ?_
  rintro e w' ⟨rfl, q3, rfl⟩
  rw [drewN_drewN]
  go_wp2
  go_ret
  exact ⟨rfl, below_drewN _ _⟩

set_option maxHeartbeats 3200000 in
theorem after17_one (ob oo kb tb vb kc tc vc : Nat) (kv vv tv : Value) (w : World) (ck : 1 ≤ kc) (ct : 1 ≤ tc) (cv : 1 ≤ vc)
    (h0 : w.cell? ⟨ob, oo, none⟩ = some kv) (h1 : w.cell? ⟨ob, oo + 1, none⟩ = some vv) (h2 : w.cell? ⟨ob, oo + 2, none⟩ = some tv)
    (h3 : w.cell? ⟨ob, oo + 3, none⟩ = some (.int .i64 0)) (k1 : Vw w kv (ints [])) (t1 : Vw w tv (ints [])) (p1 : Vw w vv (ptrs [])) :
    Calls Yba.prog 17 #[.pointer (some ⟨ob, oo, none⟩), .slice (some ⟨kb, 0, none⟩) 1 kc, .slice (some ⟨tb, 0, none⟩) 1 tc, .slice (some ⟨vb, 0, none⟩) 1 vc, .int .i64 0] w fun e w' => e = .returned (.bool true) ∧ Below w.heap.size w w' := by
  have K' : Hid (∀ q a c, Calls Yba.prog 35 #[kv, .slice a 0 c] (w.drewN q) fun e w' => e = .returned (.bool true) ∧ ∃ r, (w.drewN q).drewN r = w') := fun q a c => equal35_same [] kv _ (w.drewN q) k1 (vw_empty _ a c) (by simp)
  have T' : Hid (∀ q a c, Calls Yba.prog 35 #[tv, .slice a 0 c] (w.drewN q) fun e w' => e = .returned (.bool true) ∧ ∃ r, (w.drewN q).drewN r = w') := fun q a c => equal35_same [] tv _ (w.drewN q) t1 (vw_empty _ a c) (by simp)
  have P' : Hid (∀ q a c, Calls Yba.prog 37 #[vv, .slice a 0 c] (w.drewN q) fun e w' => e = .returned (.bool true) ∧ ∃ r, (w.drewN q).drewN r = w') := fun q a c => equal37_same [] vv _ (w.drewN q) p1 (vw_empty _ a c) (by simp)
  obtain ⟨ka, kcc, ekv⟩ := vw_len k1
  have ekv' : kv = .slice ka 0 kcc := ekv
  clear ekv
  subst ekv'
  clear k1 t1 p1
  rcases (show kc = 1 ∨ 1 < kc by omega) with e1 | e1 <;> rcases (show vc = 1 ∨ 1 < vc by omega) with e2 | e2 <;> rcases (show tc = 1 ∨ 1 < tc by omega) with e3 | e3
  all_goals
    try subst e1
    try subst e2
    try subst e3
    go_enter Yba.func17, Yba.ntmps17
    go_wp2
    go_quiet (fail)
    go_wp2_with fail
    refine (K'.out _ _ _).mono ?_
    rintro e w' ⟨rfl, q, rfl⟩
    rw [drewN_drewN]
    go_wp2_with fail
    refine (T'.out _ _ _).mono ?_
    rintro e w' ⟨rfl, q2, rfl⟩
    rw [drewN_drewN]
    go_wp2_with fail
    refine (P'.out _ _ _).mono ?_
    rintro e w' ⟨rfl, q3, rfl⟩
    rw [drewN_drewN]
    go_wp2
    go_ret
    exact ⟨rfl, below_drewN _ _⟩

set_option maxHeartbeats 1600000 in
theorem after17_in (ob oo kb tb vb kc tc vc n i : Nat) (kv vv tv : Value) (ks ts : List Int) (ps : List (Option Nat)) (w : World) (hm : n ≤ 1000000) (hk : ks.length = n) (ht : ts.length = n) (hp : ps.length = n) (hi0 : 0 < i) (hi1 : i + 1 < n)
    (h0 : w.cell? ⟨ob, oo, none⟩ = some kv) (h1 : w.cell? ⟨ob, oo + 1, none⟩ = some vv) (h2 : w.cell? ⟨ob, oo + 2, none⟩ = some tv)
    (h3 : w.cell? ⟨ob, oo + 3, none⟩ = some (.int .i64 1))
    (rk : RowAt w kb (ints ks)) (rt : RowAt w tb (ints ts)) (rp : RowAt w vb (ptrs ps))
    (k1 : Vw w kv (ints ks)) (t1 : Vw w tv (ints ts)) (p1 : Vw w vv (ptrs (ps.set i none))) :
    Calls Yba.prog 17 #[.pointer (some ⟨ob, oo, none⟩), .slice (some ⟨kb, 0, none⟩) n kc, .slice (some ⟨tb, 0, none⟩) n tc, .slice (some ⟨vb, 0, none⟩) n vc, .int .i64 i] w fun e w' => e = .returned (.bool true) ∧ Below w.heap.size w w' := by
  have hob : ob < w.heap.size := lt_of_cell h0
  have CL := clone10_some ⟨vb, 0, none⟩ n vc (ptrs ps) w (by rw [ptrs_len, hp]) hm (ptrs_one ps) (row_add rp) (fun h => lt_of_row rp (by rw [ptrs_len, hp]; exact h))
  have C' : Hid (Calls Yba.prog 10 #[.slice (some ⟨vb, 0, none⟩) n vc] w fun e w' => ∃ v', e = .returned v' ∧ w'.ownsRow w.heap.size 27 1 v' n (ptrs ps) ∧ v' ≠ .slice none 0 0 ∧ Below w.heap.size w w') := CL
  have k1' : Vw w (.slice (some ⟨kb, 0, none⟩) n kc) (ints ks) := vw_ints rk hk _
  have t1' : Vw w (.slice (some ⟨tb, 0, none⟩) n tc) (ints ts) := vw_ints rt ht _
  have K' : Hid (∀ W : World, (∀ a : Addr, a.block < w.heap.size → W.cell? a = w.cell? a) → Calls Yba.prog 35 #[kv, .slice (some ⟨kb, 0, none⟩) n kc] W fun e w' => e = .returned (.bool true) ∧ ∃ r, W.drewN r = w') := fun W hW => equal35_same ks kv _ W (vw_below k1 hW) (vw_below k1' hW) (by omega)
  have T' : Hid (∀ W : World, (∀ a : Addr, a.block < w.heap.size → W.cell? a = w.cell? a) → Calls Yba.prog 35 #[tv, .slice (some ⟨tb, 0, none⟩) n tc] W fun e w' => e = .returned (.bool true) ∧ ∃ r, W.drewN r = w') := fun W hW => equal35_same ts tv _ W (vw_below t1 hW) (vw_below t1' hW) (by omega)
  have P' : Hid (∀ (W : World) g c, (∀ a : Addr, a.block < w.heap.size → W.cell? a = w.cell? a) → RowAt W g (ptrs (ps.set i none)) → Calls Yba.prog 37 #[vv, .slice (some ⟨g, 0, none⟩) n c] W fun e w' => e = .returned (.bool true) ∧ ∃ r, W.drewN r = w') := fun W g c hW hr => equal37_same _ vv _ W (vw_below p1 hW) (vw_ptrs hr (by simp [hp]) _) (by simp; omega)
  have hlk : (ints ks).length = n := by rw [ints_len]; exact hk
  obtain ⟨ka, kcc, ekv⟩ := vw_len k1
  rw [hlk] at ekv
  subst ekv
  have HP : Hid (ps.length = n) := hp
  clear CL k1 k1' t1 t1' p1 rk rt rp hk ht hlk hp
  go_enter Yba.func17, Yba.ntmps17
  go_wp2_with fail
  refine C'.out.mono ?_
  rintro e w1 ⟨v', rfl, hown, hne, hB⟩
  obtain ⟨g, c, hv, hg, hgs, ⟨u0, hcell⟩, hfz⟩ := own_parts (i := i) hown hne (by omega)
  subst hv
  have hrow : RowAt w1 g (ptrs ps) := own_row hown (by rw [ptrs_len, HP.out])
  have hW : ∀ a : Addr, a.block < w.heap.size → (w1.setCell ⟨g, i, none⟩ (.pointer none)).cell? a = w.cell? a := by
    intro a ha
    rw [World.cell?_setCell_other]
    · exact hB.cell ha
    · intro e; rw [← e] at ha; simp at ha; omega
  have c0 := (hW ⟨ob, oo, none⟩ hob).trans h0
  have c1 := (hW ⟨ob, oo + 1, none⟩ hob).trans h1
  have c2 := (hW ⟨ob, oo + 2, none⟩ hob).trans h2
  have c3 := (hW ⟨ob, oo + 3, none⟩ hob).trans h3
  have HR : Hid (RowAt (w1.setCell ⟨g, i, none⟩ (.pointer none)) g (ptrs (ps.set i none))) := row_set hrow (by rw [HP.out]; omega)
  have HW : Hid (∀ a : Addr, a.block < w.heap.size → (w1.setCell ⟨g, i, none⟩ (.pointer none)).cell? a = w.cell? a) := hW
  have hBB : Below w.heap.size w (w1.setCell ⟨g, i, none⟩ (.pointer none)) := hB.setCell hg _
  clear hW hown hrow hne
  obtain ⟨W2, hW2⟩ : ∃ W2, w1.setCell ⟨g, i, none⟩ (.pointer none) = W2 := ⟨_, rfl⟩
  rw [hW2] at c0 c1 c2 c3 HR HW hBB
  go_wp2_with fail
  refine (K'.out _ HW.out).mono ?_
  rintro e w' ⟨rfl, q, rfl⟩
  clear hW2
  go_wp2_with fail
  refine (T'.out (W2.drewN _) (fun a ha => HW.out a ha)).mono ?_
  rintro e w' ⟨rfl, q2, rfl⟩
  go_wp2_with fail
  refine (P'.out (W2.drewN _) _ _ (fun a ha => HW.out a ha) (fun j hj => HR.out j hj)).mono ?_
  rintro e w' ⟨rfl, q3, rfl⟩
  go_wp2
  go_ret
  exact ⟨rfl, below_more hBB _⟩

end Go.Proofs.Ybulkexnkw
