/-
  slices.Clone (7 to 10): each by program out of one text.
-/
import Derived.Test.YbulkexnkwEq
import Derived.Lib.SliceRun
namespace Go.Proofs.Ybulkexnkw
open Go.RowKit

theorem Yba.info2 : (Yba.prog.info? 2).map (fun i => (i.zero, i.size, i.bytes)) = some (some (.int .i64 0), 1, 8) := by kernel_rfl
theorem Yba.info40 : (Yba.prog.info? 40).map (fun i => (i.zero, i.size, i.bytes)) = some (some (.pointer none), 1, 8) := by kernel_rfl
theorem Yba.info33 : (Yba.prog.info? 33).map (fun i => (i.zero, i.size, i.bytes)) = some (some (.pointer none), 1, 8) := by kernel_rfl
theorem Yba.info27 : (Yba.prog.info? 27).map (fun i => (i.zero, i.size, i.bytes)) = some (some (.pointer none), 1, 8) := by kernel_rfl

theorem owns_empty (w : World) (t : TypeId) : (w.alloc (.cells #[] t)).ownsRow w.heap.size t 1 (.slice (some ⟨w.heap.size, 0, none⟩) 0 0) 0 [] :=
  ⟨rfl, .inr ⟨w.heap.size, 0, #[], rfl, Nat.le_refl _, heap_alloc_new w _, Nat.le_refl _, Nat.zero_le _, rfl, rfl⟩⟩

set_option maxHeartbeats 400000 in
theorem clone7_nil (w : World) : Calls Yba.prog 7 #[.slice none 0 0] w fun e w' => e = .returned (.slice none 0 0) ∧ w = w' := by
  have hsn := fun w a n c => Lib.run_eql_slice_nil (P := Yba.prog) w 22 2 a n c 0 0 Yba.underlying22
  go_enter Yba.func7, Yba.ntmps7
  go_wp2
  go_ret
  exact ⟨rfl, rfl⟩

set_option maxHeartbeats 800000 in
theorem clone7_some (ad : Addr) (n c : Nat) (vs : List Value) (w : World) (hl : vs.length = n) (hn : n ≤ 1000000) (h1 : ∀ u ∈ vs, u.oneCell' = true) (hc : ∀ j u, vs[j]? = some u → w.cell? (ad.add j) = some u) (hb : 0 < n → ad.block < w.heap.size) :
    Calls Yba.prog 7 #[.slice (some ad) n c] w fun e w' => ∃ v', e = .returned v' ∧ w'.ownsRow w.heap.size 2 1 v' n vs ∧ v' ≠ .slice none 0 0 ∧ Below w.heap.size w w' := by
  obtain ⟨i0, hi, hz0, hz1, hz2⟩ := info_parts Yba.info2
  have hc' : ∀ j u, vs[j]? = some u → (w.alloc (.cells #[] 2)).cell? (ad.add j) = some u := by
    intro j u hj
    have hjl := (List.getElem?_eq_some_iff.1 hj).1
    have hbl : (ad.add j).block < w.heap.size := by
      have := hb (by omega)
      have e : (ad.add j).block = ad.block := by unfold Addr.add; split <;> simp_all
      omega
    rw [((Below.refl _ w).alloc (Nat.le_refl _) (.cells #[] 2)).cell hbl]
    exact hc j u hj
  have HC : Hid (∀ j u, vs[j]? = some u → (w.alloc (.cells #[] 2)).cell? (ad.add j) = some u) := hc'
  have HL : Hid (vs.length = n) := hl
  clear hc hc' hl
  have hsn := fun w a n c => Lib.run_eql_slice_nil (P := Yba.prog) w 22 2 a n c 0 0 Yba.underlying22
  go_enter Yba.func7, Yba.ntmps7
  go_wp2_with (at_builtin; refine wpList_append_own _ rfl (.tmp 5) (.tmp 6) 22 rfl w.heap.size 2 i0 (.int .i64 0) 1 8 Yba.underlying22 hi hz0 hz1 hz2 rfl (by decide) _ _ _ rfl (owns_empty w 2) ad n c vs rfl (by rw [HL.out]; omega) HC.out h1 (by unfold maxLen; omega) (by omega) (by simp) ?_; intro v' w1 hown hgrow hnil)
  go_ret
  simp only [Nat.zero_add, List.nil_append] at hown
  exact ⟨_, rfl, hown, (fun e => by have := hnil.1 e; cases this.1), (((Below.refl _ w).alloc (Nat.le_refl _) _).grown hgrow (by simp) (by intro k h; cases h; exact Nat.le_refl _))⟩

set_option maxHeartbeats 400000 in
theorem clone8_nil (w : World) : Calls Yba.prog 8 #[.slice none 0 0] w fun e w' => e = .returned (.slice none 0 0) ∧ w = w' := by
  have hsn := fun w a n c => Lib.run_eql_slice_nil (P := Yba.prog) w 34 40 a n c 0 0 Yba.underlying34
  go_enter Yba.func8, Yba.ntmps8
  go_wp2
  go_ret
  exact ⟨rfl, rfl⟩

set_option maxHeartbeats 800000 in
theorem clone8_some (ad : Addr) (n c : Nat) (vs : List Value) (w : World) (hl : vs.length = n) (hn : n ≤ 1000000) (h1 : ∀ u ∈ vs, u.oneCell' = true) (hc : ∀ j u, vs[j]? = some u → w.cell? (ad.add j) = some u) (hb : 0 < n → ad.block < w.heap.size) :
    Calls Yba.prog 8 #[.slice (some ad) n c] w fun e w' => ∃ v', e = .returned v' ∧ w'.ownsRow w.heap.size 40 1 v' n vs ∧ v' ≠ .slice none 0 0 ∧ Below w.heap.size w w' := by
  obtain ⟨i0, hi, hz0, hz1, hz2⟩ := info_parts Yba.info40
  have hc' : ∀ j u, vs[j]? = some u → (w.alloc (.cells #[] 40)).cell? (ad.add j) = some u := by
    intro j u hj
    have hjl := (List.getElem?_eq_some_iff.1 hj).1
    have hbl : (ad.add j).block < w.heap.size := by
      have := hb (by omega)
      have e : (ad.add j).block = ad.block := by unfold Addr.add; split <;> simp_all
      omega
    rw [((Below.refl _ w).alloc (Nat.le_refl _) (.cells #[] 40)).cell hbl]
    exact hc j u hj
  have HC : Hid (∀ j u, vs[j]? = some u → (w.alloc (.cells #[] 40)).cell? (ad.add j) = some u) := hc'
  have HL : Hid (vs.length = n) := hl
  clear hc hc' hl
  have hsn := fun w a n c => Lib.run_eql_slice_nil (P := Yba.prog) w 34 40 a n c 0 0 Yba.underlying34
  go_enter Yba.func8, Yba.ntmps8
  go_wp2_with (at_builtin; refine wpList_append_own _ rfl (.tmp 5) (.tmp 6) 34 rfl w.heap.size 40 i0 (.pointer none) 1 8 Yba.underlying34 hi hz0 hz1 hz2 rfl (by decide) _ _ _ rfl (owns_empty w 40) ad n c vs rfl (by rw [HL.out]; omega) HC.out h1 (by unfold maxLen; omega) (by omega) (by simp) ?_; intro v' w1 hown hgrow hnil)
  go_ret
  simp only [Nat.zero_add, List.nil_append] at hown
  exact ⟨_, rfl, hown, (fun e => by have := hnil.1 e; cases this.1), (((Below.refl _ w).alloc (Nat.le_refl _) _).grown hgrow (by simp) (by intro k h; cases h; exact Nat.le_refl _))⟩

set_option maxHeartbeats 400000 in
theorem clone9_nil (w : World) : Calls Yba.prog 9 #[.slice none 0 0] w fun e w' => e = .returned (.slice none 0 0) ∧ w = w' := by
  have hsn := fun w a n c => Lib.run_eql_slice_nil (P := Yba.prog) w 28 33 a n c 0 0 Yba.underlying28
  go_enter Yba.func9, Yba.ntmps9
  go_wp2
  go_ret
  exact ⟨rfl, rfl⟩

set_option maxHeartbeats 800000 in
theorem clone9_some (ad : Addr) (n c : Nat) (vs : List Value) (w : World) (hl : vs.length = n) (hn : n ≤ 1000000) (h1 : ∀ u ∈ vs, u.oneCell' = true) (hc : ∀ j u, vs[j]? = some u → w.cell? (ad.add j) = some u) (hb : 0 < n → ad.block < w.heap.size) :
    Calls Yba.prog 9 #[.slice (some ad) n c] w fun e w' => ∃ v', e = .returned v' ∧ w'.ownsRow w.heap.size 33 1 v' n vs ∧ v' ≠ .slice none 0 0 ∧ Below w.heap.size w w' := by
  obtain ⟨i0, hi, hz0, hz1, hz2⟩ := info_parts Yba.info33
  have hc' : ∀ j u, vs[j]? = some u → (w.alloc (.cells #[] 33)).cell? (ad.add j) = some u := by
    intro j u hj
    have hjl := (List.getElem?_eq_some_iff.1 hj).1
    have hbl : (ad.add j).block < w.heap.size := by
      have := hb (by omega)
      have e : (ad.add j).block = ad.block := by unfold Addr.add; split <;> simp_all
      omega
    rw [((Below.refl _ w).alloc (Nat.le_refl _) (.cells #[] 33)).cell hbl]
    exact hc j u hj
  have HC : Hid (∀ j u, vs[j]? = some u → (w.alloc (.cells #[] 33)).cell? (ad.add j) = some u) := hc'
  have HL : Hid (vs.length = n) := hl
  clear hc hc' hl
  have hsn := fun w a n c => Lib.run_eql_slice_nil (P := Yba.prog) w 28 33 a n c 0 0 Yba.underlying28
  go_enter Yba.func9, Yba.ntmps9
  go_wp2_with (at_builtin; refine wpList_append_own _ rfl (.tmp 5) (.tmp 6) 28 rfl w.heap.size 33 i0 (.pointer none) 1 8 Yba.underlying28 hi hz0 hz1 hz2 rfl (by decide) _ _ _ rfl (owns_empty w 33) ad n c vs rfl (by rw [HL.out]; omega) HC.out h1 (by unfold maxLen; omega) (by omega) (by simp) ?_; intro v' w1 hown hgrow hnil)
  go_ret
  simp only [Nat.zero_add, List.nil_append] at hown
  exact ⟨_, rfl, hown, (fun e => by have := hnil.1 e; cases this.1), (((Below.refl _ w).alloc (Nat.le_refl _) _).grown hgrow (by simp) (by intro k h; cases h; exact Nat.le_refl _))⟩

set_option maxHeartbeats 400000 in
theorem clone10_nil (w : World) : Calls Yba.prog 10 #[.slice none 0 0] w fun e w' => e = .returned (.slice none 0 0) ∧ w = w' := by
  have hsn := fun w a n c => Lib.run_eql_slice_nil (P := Yba.prog) w 26 27 a n c 0 0 Yba.underlying26
  go_enter Yba.func10, Yba.ntmps10
  go_wp2
  go_ret
  exact ⟨rfl, rfl⟩

set_option maxHeartbeats 800000 in
theorem clone10_some (ad : Addr) (n c : Nat) (vs : List Value) (w : World) (hl : vs.length = n) (hn : n ≤ 1000000) (h1 : ∀ u ∈ vs, u.oneCell' = true) (hc : ∀ j u, vs[j]? = some u → w.cell? (ad.add j) = some u) (hb : 0 < n → ad.block < w.heap.size) :
    Calls Yba.prog 10 #[.slice (some ad) n c] w fun e w' => ∃ v', e = .returned v' ∧ w'.ownsRow w.heap.size 27 1 v' n vs ∧ v' ≠ .slice none 0 0 ∧ Below w.heap.size w w' := by
  obtain ⟨i0, hi, hz0, hz1, hz2⟩ := info_parts Yba.info27
  have hc' : ∀ j u, vs[j]? = some u → (w.alloc (.cells #[] 27)).cell? (ad.add j) = some u := by
    intro j u hj
    have hjl := (List.getElem?_eq_some_iff.1 hj).1
    have hbl : (ad.add j).block < w.heap.size := by
      have := hb (by omega)
      have e : (ad.add j).block = ad.block := by unfold Addr.add; split <;> simp_all
      omega
    rw [((Below.refl _ w).alloc (Nat.le_refl _) (.cells #[] 27)).cell hbl]
    exact hc j u hj
  have HC : Hid (∀ j u, vs[j]? = some u → (w.alloc (.cells #[] 27)).cell? (ad.add j) = some u) := hc'
  have HL : Hid (vs.length = n) := hl
  clear hc hc' hl
  have hsn := fun w a n c => Lib.run_eql_slice_nil (P := Yba.prog) w 26 27 a n c 0 0 Yba.underlying26
  go_enter Yba.func10, Yba.ntmps10
  go_wp2_with (at_builtin; refine wpList_append_own _ rfl (.tmp 5) (.tmp 6) 26 rfl w.heap.size 27 i0 (.pointer none) 1 8 Yba.underlying26 hi hz0 hz1 hz2 rfl (by decide) _ _ _ rfl (owns_empty w 27) ad n c vs rfl (by rw [HL.out]; omega) HC.out h1 (by unfold maxLen; omega) (by omega) (by simp) ?_; intro v' w1 hown hgrow hnil)
  go_ret
  simp only [Nat.zero_add, List.nil_append] at hown
  exact ⟨_, rfl, hown, (fun e => by have := hnil.1 e; cases this.1), (((Below.refl _ w).alloc (Nat.le_refl _) _).grown hgrow (by simp) (by intro k h; cases h; exact Nat.le_refl _))⟩

end Go.Proofs.Ybulkexnkw
