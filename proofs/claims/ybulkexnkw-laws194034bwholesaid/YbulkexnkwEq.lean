/-
  Slices as they are read; slices.Equal (35 to 38) at two slices of one content (each by program out of one text).
-/
import Derived.Test.YbulkexnkwFind
namespace Go.Proofs.Ybulkexnkw
open Go.RowKit

/-- The slice value v reads as vs. -/
def Vw (w : World) (v : Value) (vs : List Value) : Prop :=
  ∃ a c, v = .slice a vs.length c ∧ (0 < vs.length → ∃ b o, a = some ⟨b, o, none⟩ ∧ ∀ j, j < vs.length → w.cell? ⟨b, o + j, none⟩ = vs[j]?)
/-- A pointer that may be nil. -/
def pv : Option Nat → Value
  | none => .pointer none
  | some p => .pointer (some ⟨p, 0, none⟩)
theorem cell_drewN (w : World) (q : Nat) (a : Addr) : (w.drewN q).cell? a = w.cell? a := rfl
theorem drewN_drewN (w : World) (q r : Nat) : (w.drewN q).drewN r = w.drewN (q + r) := by simp [World.drewN, Nat.add_assoc]

set_option maxHeartbeats 800000 in
theorem equal35_same (xs : List Int) (v1 v2 : Value) (w : World) (h1 : Vw w v1 (xs.map (Value.int .i64))) (h2 : Vw w v2 (xs.map (Value.int .i64))) (hn : xs.length ≤ 1000000) :
    Calls Yba.prog 35 #[v1, v2] w fun e w' => e = .returned (.bool true) ∧ ∃ q, w.drewN q = w' := by
  obtain ⟨a1, cap1, rfl, H1⟩ := h1
  obtain ⟨a2, cap2, rfl, H2⟩ := h2
  have hl : (xs.map (Value.int .i64)).length ≤ 1000000 := by simpa using hn
  obtain ⟨n, hn'⟩ : ∃ n, n = (xs.map (Value.int .i64)).length := ⟨_, rfl⟩
  rw [← hn'] at H1 H2 hl ⊢
  have HN : Hid (n = (xs.map (Value.int .i64)).length) := hn'
  have G1 : Hid (0 < n → ∃ b o, a1 = some ⟨b, o, none⟩ ∧ ∀ j, j < n → w.cell? ⟨b, o + j, none⟩ = (xs.map (Value.int .i64))[j]?) := H1
  have G2 : Hid (0 < n → ∃ b o, a2 = some ⟨b, o, none⟩ ∧ ∀ j, j < n → w.cell? ⟨b, o + j, none⟩ = (xs.map (Value.int .i64))[j]?) := H2
  clear H1 H2 hn' hn
  go_enter Yba.func35, Yba.ntmps35
  go_wp2
  go_loopw [13] (fun i wr => ∃ k q : Nat, k ≤ n ∧ i = .int .i64 k ∧ w.drewN q = wr) (fun i _ => n - (intOf i).toNat)
  case atStart => exact ⟨0, 0, Nat.zero_le _, rfl, rfl⟩
  case round =>
    obtain ⟨k, q, hk, rfl, rfl⟩ := hrel
    by_cases hlt : k < n
    · obtain ⟨b1, o1, e1, hc1⟩ := G1.out (by omega)
      obtain ⟨b2, o2, e2, hc2⟩ := G2.out (by omega)
      subst e1
      subst e2
      have hlt' : k < (xs.map (Value.int .i64)).length := by rw [← HN.out]; exact hlt
      obtain ⟨x, HX⟩ : ∃ x, Hid ((xs.map (Value.int .i64))[k]? = some (.int .i64 x)) := ⟨xs[k]'(by simpa using hlt'), by show _ = _; simp [List.getElem?_eq_getElem (show k < xs.length by simpa using hlt')]⟩
      have c1 : w.cell? ⟨b1, o1 + k, none⟩ = some (.int .i64 x) := by rw [hc1 k hlt]; exact HX.out
      have c2 : w.cell? ⟨b2, o2 + k, none⟩ = some (.int .i64 x) := by rw [hc2 k hlt]; exact HX.out
      clear hc1 hc2
      go_wp2
      go_quiet (fail)
      go_wp2
      go_roundw
      case rel => exact ⟨k + 1, _, by omega, by go_num, rfl⟩
      case measure => simp [intOf]; omega
    · go_wp2
      go_ret
      exact ⟨rfl, q, rfl⟩

set_option maxHeartbeats 800000 in
theorem equal36_same (xs : List (Option Nat)) (v1 v2 : Value) (w : World) (h1 : Vw w v1 (xs.map pv)) (h2 : Vw w v2 (xs.map pv)) (hn : xs.length ≤ 1000000) :
    Calls Yba.prog 36 #[v1, v2] w fun e w' => e = .returned (.bool true) ∧ ∃ q, w.drewN q = w' := by
  obtain ⟨a1, cap1, rfl, H1⟩ := h1
  obtain ⟨a2, cap2, rfl, H2⟩ := h2
  have hl : (xs.map pv).length ≤ 1000000 := by simpa using hn
  obtain ⟨j0, hj0, _⟩ := Yba.info53
  obtain ⟨n, hn'⟩ : ∃ n, n = (xs.map pv).length := ⟨_, rfl⟩
  rw [← hn'] at H1 H2 hl ⊢
  have HN : Hid (n = (xs.map pv).length) := hn'
  have G1 : Hid (0 < n → ∃ b o, a1 = some ⟨b, o, none⟩ ∧ ∀ j, j < n → w.cell? ⟨b, o + j, none⟩ = (xs.map pv)[j]?) := H1
  have G2 : Hid (0 < n → ∃ b o, a2 = some ⟨b, o, none⟩ ∧ ∀ j, j < n → w.cell? ⟨b, o + j, none⟩ = (xs.map pv)[j]?) := H2
  clear H1 H2 hn' hn
  go_enter Yba.func36, Yba.ntmps36
  go_wp2
  go_loopw [13] (fun i wr => ∃ k q : Nat, k ≤ n ∧ i = .int .i64 k ∧ w.drewN q = wr) (fun i _ => n - (intOf i).toNat)
  case atStart => exact ⟨0, 0, Nat.zero_le _, rfl, rfl⟩
  case round =>
    obtain ⟨k, q, hk, rfl, rfl⟩ := hrel
    by_cases hlt : k < n
    · obtain ⟨b1, o1, e1, hc1⟩ := G1.out (by omega)
      obtain ⟨b2, o2, e2, hc2⟩ := G2.out (by omega)
      subst e1
      subst e2
      have hlt' : k < (xs.map pv).length := by rw [← HN.out]; exact hlt
      obtain ⟨x, HX⟩ : ∃ x, Hid ((xs.map pv)[k]? = some (pv x)) := ⟨xs[k]'(by simpa using hlt'), by show _ = _; simp [List.getElem?_eq_getElem (show k < xs.length by simpa using hlt')]⟩
      have c1 : w.cell? ⟨b1, o1 + k, none⟩ = some (pv x) := by rw [hc1 k hlt]; exact HX.out
      have c2 : w.cell? ⟨b2, o2 + k, none⟩ = some (pv x) := by rw [hc2 k hlt]; exact HX.out
      clear hc1 hc2 HX
      cases x with
      | none =>
        simp only [pv] at c1 c2
        go_wp2
        go_quiet (fail)
        go_wp2
        go_roundw
        case rel => exact ⟨k + 1, _, by omega, by go_num, rfl⟩
        case measure => simp [intOf]; omega
      | some p =>
        simp only [pv] at c1 c2
        have he := fun w => Lib.run_neq_ptr_same (P := Yba.prog) w (tp := 40) ⟨p, 0, none⟩ Yba.underlying40 hj0
        go_wp2
        go_quiet (fail)
        go_wp2
        go_roundw
        case rel => exact ⟨k + 1, _, by omega, by go_num, rfl⟩
        case measure => simp [intOf]; omega
    · go_wp2
      go_ret
      exact ⟨rfl, q, rfl⟩

set_option maxHeartbeats 800000 in
theorem equal37_same (xs : List (Option Nat)) (v1 v2 : Value) (w : World) (h1 : Vw w v1 (xs.map pv)) (h2 : Vw w v2 (xs.map pv)) (hn : xs.length ≤ 1000000) :
    Calls Yba.prog 37 #[v1, v2] w fun e w' => e = .returned (.bool true) ∧ ∃ q, w.drewN q = w' := by
  obtain ⟨a1, cap1, rfl, H1⟩ := h1
  obtain ⟨a2, cap2, rfl, H2⟩ := h2
  have hl : (xs.map pv).length ≤ 1000000 := by simpa using hn
  obtain ⟨j0, hj0, _⟩ := Yba.info32
  obtain ⟨n, hn'⟩ : ∃ n, n = (xs.map pv).length := ⟨_, rfl⟩
  rw [← hn'] at H1 H2 hl ⊢
  have HN : Hid (n = (xs.map pv).length) := hn'
  have G1 : Hid (0 < n → ∃ b o, a1 = some ⟨b, o, none⟩ ∧ ∀ j, j < n → w.cell? ⟨b, o + j, none⟩ = (xs.map pv)[j]?) := H1
  have G2 : Hid (0 < n → ∃ b o, a2 = some ⟨b, o, none⟩ ∧ ∀ j, j < n → w.cell? ⟨b, o + j, none⟩ = (xs.map pv)[j]?) := H2
  clear H1 H2 hn' hn
  go_enter Yba.func37, Yba.ntmps37
  go_wp2
  go_loopw [13] (fun i wr => ∃ k q : Nat, k ≤ n ∧ i = .int .i64 k ∧ w.drewN q = wr) (fun i _ => n - (intOf i).toNat)
  case atStart => exact ⟨0, 0, Nat.zero_le _, rfl, rfl⟩
  case round =>
    obtain ⟨k, q, hk, rfl, rfl⟩ := hrel
    by_cases hlt : k < n
    · obtain ⟨b1, o1, e1, hc1⟩ := G1.out (by omega)
      obtain ⟨b2, o2, e2, hc2⟩ := G2.out (by omega)
      subst e1
      subst e2
      have hlt' : k < (xs.map pv).length := by rw [← HN.out]; exact hlt
      obtain ⟨x, HX⟩ : ∃ x, Hid ((xs.map pv)[k]? = some (pv x)) := ⟨xs[k]'(by simpa using hlt'), by show _ = _; simp [List.getElem?_eq_getElem (show k < xs.length by simpa using hlt')]⟩
      have c1 : w.cell? ⟨b1, o1 + k, none⟩ = some (pv x) := by rw [hc1 k hlt]; exact HX.out
      have c2 : w.cell? ⟨b2, o2 + k, none⟩ = some (pv x) := by rw [hc2 k hlt]; exact HX.out
      clear hc1 hc2 HX
      cases x with
      | none =>
        simp only [pv] at c1 c2
        go_wp2
        go_quiet (fail)
        go_wp2
        go_roundw
        case rel => exact ⟨k + 1, _, by omega, by go_num, rfl⟩
        case measure => simp [intOf]; omega
      | some p =>
        simp only [pv] at c1 c2
        have he := fun w => Lib.run_neq_ptr_same (P := Yba.prog) w (tp := 27) ⟨p, 0, none⟩ Yba.underlying27 hj0
        go_wp2
        go_quiet (fail)
        go_wp2
        go_roundw
        case rel => exact ⟨k + 1, _, by omega, by go_num, rfl⟩
        case measure => simp [intOf]; omega
    · go_wp2
      go_ret
      exact ⟨rfl, q, rfl⟩

set_option maxHeartbeats 800000 in
theorem equal38_same (xs : List (Option Nat)) (v1 v2 : Value) (w : World) (h1 : Vw w v1 (xs.map pv)) (h2 : Vw w v2 (xs.map pv)) (hn : xs.length ≤ 1000000) :
    Calls Yba.prog 38 #[v1, v2] w fun e w' => e = .returned (.bool true) ∧ ∃ q, w.drewN q = w' := by
  obtain ⟨a1, cap1, rfl, H1⟩ := h1
  obtain ⟨a2, cap2, rfl, H2⟩ := h2
  have hl : (xs.map pv).length ≤ 1000000 := by simpa using hn
  obtain ⟨j0, hj0, _⟩ := Yba.info38
  obtain ⟨n, hn'⟩ : ∃ n, n = (xs.map pv).length := ⟨_, rfl⟩
  rw [← hn'] at H1 H2 hl ⊢
  have HN : Hid (n = (xs.map pv).length) := hn'
  have G1 : Hid (0 < n → ∃ b o, a1 = some ⟨b, o, none⟩ ∧ ∀ j, j < n → w.cell? ⟨b, o + j, none⟩ = (xs.map pv)[j]?) := H1
  have G2 : Hid (0 < n → ∃ b o, a2 = some ⟨b, o, none⟩ ∧ ∀ j, j < n → w.cell? ⟨b, o + j, none⟩ = (xs.map pv)[j]?) := H2
  clear H1 H2 hn' hn
  go_enter Yba.func38, Yba.ntmps38
  go_wp2
  go_loopw [13] (fun i wr => ∃ k q : Nat, k ≤ n ∧ i = .int .i64 k ∧ w.drewN q = wr) (fun i _ => n - (intOf i).toNat)
  case atStart => exact ⟨0, 0, Nat.zero_le _, rfl, rfl⟩
  case round =>
    obtain ⟨k, q, hk, rfl, rfl⟩ := hrel
    by_cases hlt : k < n
    · obtain ⟨b1, o1, e1, hc1⟩ := G1.out (by omega)
      obtain ⟨b2, o2, e2, hc2⟩ := G2.out (by omega)
      subst e1
      subst e2
      have hlt' : k < (xs.map pv).length := by rw [← HN.out]; exact hlt
      obtain ⟨x, HX⟩ : ∃ x, Hid ((xs.map pv)[k]? = some (pv x)) := ⟨xs[k]'(by simpa using hlt'), by show _ = _; simp [List.getElem?_eq_getElem (show k < xs.length by simpa using hlt')]⟩
      have c1 : w.cell? ⟨b1, o1 + k, none⟩ = some (pv x) := by rw [hc1 k hlt]; exact HX.out
      have c2 : w.cell? ⟨b2, o2 + k, none⟩ = some (pv x) := by rw [hc2 k hlt]; exact HX.out
      clear hc1 hc2 HX
      cases x with
      | none =>
        simp only [pv] at c1 c2
        go_wp2
        go_quiet (fail)
        go_wp2
        go_roundw
        case rel => exact ⟨k + 1, _, by omega, by go_num, rfl⟩
        case measure => simp [intOf]; omega
      | some p =>
        simp only [pv] at c1 c2
        have he := fun w => Lib.run_neq_ptr_same (P := Yba.prog) w (tp := 33) ⟨p, 0, none⟩ Yba.underlying33 hj0
        go_wp2
        go_quiet (fail)
        go_wp2
        go_roundw
        case rel => exact ⟨k + 1, _, by omega, by go_num, rfl⟩
        case measure => simp [intOf]; omega
    · go_wp2
      go_ret
      exact ⟨rfl, q, rfl⟩

end Go.Proofs.Ybulkexnkw
