/-
  Contracts of 'ordered': place, holds, find (each by program out of one text).
-/
import Derived.Test.YbulkexnkwRows
import Derived.WalkKit
import Derived.WalkSpells
import Derived.WalkLawsBesides
import Derived.Deep.QuietTactic
import Derived.BigQuiet
import Derived.LaidEql
namespace Go.Proofs.Ybulkexnkw
open Go.RowKit

/-- (k, t) is not after (key, tie). -/
def leq (k t key tie : Int) : Prop := k < key ∨ (k = key ∧ t ≤ tie)
/-- Numbers in a row, from the head of block b on. -/
def NumsAt (w : World) (b n : Nat) (xs : List Int) : Prop := ∀ j, j < n → w.cell? ⟨b, j, none⟩ = some (.int .i64 (xs.getD j 0))
/-- A pointer to the head of a block. -/
def ptr (p : Nat) : Value := .pointer (some ⟨p, 0, none⟩)
/-- Pointers in a row, none of them nil. -/
def PtrsAt (w : World) (b n : Nat) (ps : List Nat) : Prop := ∀ j, j < n → w.cell? ⟨b, j, none⟩ = some (.pointer (some ⟨ps.getD j 0, 0, none⟩))
theorem ret_int {k : IntKind} {a b : Int} (h : a = b) : Ending.returned (.int k a) = .returned (.int k b) := by rw [h]

set_option maxHeartbeats 800000 in
theorem placeC_any (ob oo kb tb n kc tc : Nat) (ks ts : List Int) (key tie : Int) (c : Nat) (w : World) (hn : n ≤ 1000000)
    (h0 : w.cell? ⟨ob, oo, none⟩ = some (.slice (some ⟨kb, 0, none⟩) n kc)) (h2 : w.cell? ⟨ob, oo + 2, none⟩ = some (.slice (some ⟨tb, 0, none⟩) n tc))
    (hk : NumsAt w kb n ks) (ht : NumsAt w tb n ts)
    (hc : c < n) (hle : ∀ j, j ≤ c → leq (ks.getD j 0) (ts.getD j 0) key tie) (hgt : ∀ j, c < j → j < n → ¬ leq (ks.getD j 0) (ts.getD j 0) key tie) :
    Calls Yba.prog 51 #[.pointer (some ⟨ob, oo, none⟩), .int .i64 key, .int .i64 tie] w fun e w' => e = .returned (.int .i64 c) ∧ ∃ q, w.drewN q = w' := by
  have HLE : Hid (∀ j, j ≤ c → leq (ks.getD j 0) (ts.getD j 0) key tie) := hle
  have HGT : Hid (∀ j, c < j → j < n → ¬ leq (ks.getD j 0) (ts.getD j 0) key tie) := hgt
  clear hle hgt
  go_enter Yba.func51, Yba.ntmps51
  go_wp2
  go_quiet (fail)
  go_wp2
  go_loop [7, 8] (fun a b => ∃ lo hi : Nat, lo ≤ c + 1 ∧ c + 1 ≤ hi ∧ hi ≤ n ∧ a = .int .i64 lo ∧ b = .int .i64 hi) (fun a b => (intOf b).toNat - (intOf a).toNat)
  case atStart => exact ⟨0, n, by omega, by omega, Nat.le_refl _, rfl, rfl⟩
  case round =>
    obtain ⟨lo, hi, hlo, hhi, hin, rfl, rfl⟩ := hrel
    by_cases hlt : lo < hi
    · obtain ⟨k, hck, HK⟩ : ∃ k, w.cell? ⟨kb, (lo + hi) / 2, none⟩ = some (.int .i64 k) ∧ Hid (ks.getD ((lo + hi) / 2) 0 = k) := ⟨_, hk _ (by omega), rfl⟩
      obtain ⟨t, hct, HT⟩ : ∃ t, w.cell? ⟨tb, (lo + hi) / 2, none⟩ = some (.int .i64 t) ∧ Hid (ts.getD ((lo + hi) / 2) 0 = t) := ⟨_, ht _ (by omega), rfl⟩
      by_cases hcm : (lo + hi) / 2 ≤ c
      · have hq : leq k t key tie := by rw [← HK.out, ← HT.out]; exact HLE.out _ hcm
        rcases hq with hq | ⟨hq, hq2⟩
        · go_wp2
          go_round
          case rel => exact ⟨(lo + hi) / 2 + 1, hi, by omega, hhi, hin, by go_num, rfl⟩
          case measure => simp [intOf]; omega
        · subst hq
          go_wp2
          go_round
          case rel => exact ⟨(lo + hi) / 2 + 1, hi, by omega, hhi, hin, by go_num, rfl⟩
          case measure => simp [intOf]; omega
      · have hq : ¬ leq k t key tie := by rw [← HK.out, ← HT.out]; exact HGT.out _ (by omega) (by omega)
        have hq1 : ¬ k < key := fun h => hq (Or.inl h)
        by_cases hq2 : k = key
        · have hq3 : ¬ t ≤ tie := fun h => hq (Or.inr ⟨hq2, h⟩)
          clear hq hq1
          subst hq2
          go_wp2
          go_round
          case rel => exact ⟨lo, (lo + hi) / 2, by omega, by omega, by omega, rfl, by go_num⟩
          case measure => simp [intOf]; omega
        · have hq4 : (k == key) = false := by simpa using hq2
          clear hq hq2
          go_wp2
          go_round
          case rel => exact ⟨lo, (lo + hi) / 2, by omega, by omega, by omega, rfl, by go_num⟩
          case measure => simp [intOf]; omega
    · have hl : lo = c + 1 := by omega
      subst hl
      go_wp2
      go_ret
      exact ⟨ret_int (by omega), _, rfl⟩

set_option maxHeartbeats 800000 in
theorem placeS_any (ob oo kb tb n kc tc : Nat) (ks ts : List Int) (key tie : Int) (c : Nat) (w : World) (hn : n ≤ 1000000)
    (h0 : w.cell? ⟨ob, oo, none⟩ = some (.slice (some ⟨kb, 0, none⟩) n kc)) (h2 : w.cell? ⟨ob, oo + 2, none⟩ = some (.slice (some ⟨tb, 0, none⟩) n tc))
    (hk : NumsAt w kb n ks) (ht : NumsAt w tb n ts)
    (hc : c < n) (hle : ∀ j, j ≤ c → leq (ks.getD j 0) (ts.getD j 0) key tie) (hgt : ∀ j, c < j → j < n → ¬ leq (ks.getD j 0) (ts.getD j 0) key tie) :
    Calls Yba.prog 57 #[.pointer (some ⟨ob, oo, none⟩), .int .i64 key, .int .i64 tie] w fun e w' => e = .returned (.int .i64 c) ∧ ∃ q, w.drewN q = w' := by
  have HLE : Hid (∀ j, j ≤ c → leq (ks.getD j 0) (ts.getD j 0) key tie) := hle
  have HGT : Hid (∀ j, c < j → j < n → ¬ leq (ks.getD j 0) (ts.getD j 0) key tie) := hgt
  clear hle hgt
  go_enter Yba.func57, Yba.ntmps57
  go_wp2
  go_quiet (fail)
  go_wp2
  go_loop [7, 8] (fun a b => ∃ lo hi : Nat, lo ≤ c + 1 ∧ c + 1 ≤ hi ∧ hi ≤ n ∧ a = .int .i64 lo ∧ b = .int .i64 hi) (fun a b => (intOf b).toNat - (intOf a).toNat)
  case atStart => exact ⟨0, n, by omega, by omega, Nat.le_refl _, rfl, rfl⟩
  case round =>
    obtain ⟨lo, hi, hlo, hhi, hin, rfl, rfl⟩ := hrel
    by_cases hlt : lo < hi
    · obtain ⟨k, hck, HK⟩ : ∃ k, w.cell? ⟨kb, (lo + hi) / 2, none⟩ = some (.int .i64 k) ∧ Hid (ks.getD ((lo + hi) / 2) 0 = k) := ⟨_, hk _ (by omega), rfl⟩
      obtain ⟨t, hct, HT⟩ : ∃ t, w.cell? ⟨tb, (lo + hi) / 2, none⟩ = some (.int .i64 t) ∧ Hid (ts.getD ((lo + hi) / 2) 0 = t) := ⟨_, ht _ (by omega), rfl⟩
      by_cases hcm : (lo + hi) / 2 ≤ c
      · have hq : leq k t key tie := by rw [← HK.out, ← HT.out]; exact HLE.out _ hcm
        rcases hq with hq | ⟨hq, hq2⟩
        · go_wp2
          go_round
          case rel => exact ⟨(lo + hi) / 2 + 1, hi, by omega, hhi, hin, by go_num, rfl⟩
          case measure => simp [intOf]; omega
        · subst hq
          go_wp2
          go_round
          case rel => exact ⟨(lo + hi) / 2 + 1, hi, by omega, hhi, hin, by go_num, rfl⟩
          case measure => simp [intOf]; omega
      · have hq : ¬ leq k t key tie := by rw [← HK.out, ← HT.out]; exact HGT.out _ (by omega) (by omega)
        have hq1 : ¬ k < key := fun h => hq (Or.inl h)
        by_cases hq2 : k = key
        · have hq3 : ¬ t ≤ tie := fun h => hq (Or.inr ⟨hq2, h⟩)
          clear hq hq1
          subst hq2
          go_wp2
          go_round
          case rel => exact ⟨lo, (lo + hi) / 2, by omega, by omega, by omega, rfl, by go_num⟩
          case measure => simp [intOf]; omega
        · have hq4 : (k == key) = false := by simpa using hq2
          clear hq hq2
          go_wp2
          go_round
          case rel => exact ⟨lo, (lo + hi) / 2, by omega, by omega, by omega, rfl, by go_num⟩
          case measure => simp [intOf]; omega
    · have hl : lo = c + 1 := by omega
      subst hl
      go_wp2
      go_ret
      exact ⟨ret_int (by omega), _, rfl⟩

set_option maxHeartbeats 800000 in
theorem placeZ_any (ob oo kb tb n kc tc : Nat) (ks ts : List Int) (key tie : Int) (c : Nat) (w : World) (hn : n ≤ 1000000)
    (h0 : w.cell? ⟨ob, oo, none⟩ = some (.slice (some ⟨kb, 0, none⟩) n kc)) (h2 : w.cell? ⟨ob, oo + 2, none⟩ = some (.slice (some ⟨tb, 0, none⟩) n tc))
    (hk : NumsAt w kb n ks) (ht : NumsAt w tb n ts)
    (hc : c < n) (hle : ∀ j, j ≤ c → leq (ks.getD j 0) (ts.getD j 0) key tie) (hgt : ∀ j, c < j → j < n → ¬ leq (ks.getD j 0) (ts.getD j 0) key tie) :
    Calls Yba.prog 28 #[.pointer (some ⟨ob, oo, none⟩), .int .i64 key, .int .i64 tie] w fun e w' => e = .returned (.int .i64 c) ∧ ∃ q, w.drewN q = w' := by
  have HLE : Hid (∀ j, j ≤ c → leq (ks.getD j 0) (ts.getD j 0) key tie) := hle
  have HGT : Hid (∀ j, c < j → j < n → ¬ leq (ks.getD j 0) (ts.getD j 0) key tie) := hgt
  clear hle hgt
  go_enter Yba.func28, Yba.ntmps28
  go_wp2
  go_quiet (fail)
  go_wp2
  go_loop [7, 8] (fun a b => ∃ lo hi : Nat, lo ≤ c + 1 ∧ c + 1 ≤ hi ∧ hi ≤ n ∧ a = .int .i64 lo ∧ b = .int .i64 hi) (fun a b => (intOf b).toNat - (intOf a).toNat)
  case atStart => exact ⟨0, n, by omega, by omega, Nat.le_refl _, rfl, rfl⟩
  case round =>
    obtain ⟨lo, hi, hlo, hhi, hin, rfl, rfl⟩ := hrel
    by_cases hlt : lo < hi
    · obtain ⟨k, hck, HK⟩ : ∃ k, w.cell? ⟨kb, (lo + hi) / 2, none⟩ = some (.int .i64 k) ∧ Hid (ks.getD ((lo + hi) / 2) 0 = k) := ⟨_, hk _ (by omega), rfl⟩
      obtain ⟨t, hct, HT⟩ : ∃ t, w.cell? ⟨tb, (lo + hi) / 2, none⟩ = some (.int .i64 t) ∧ Hid (ts.getD ((lo + hi) / 2) 0 = t) := ⟨_, ht _ (by omega), rfl⟩
      by_cases hcm : (lo + hi) / 2 ≤ c
      · have hq : leq k t key tie := by rw [← HK.out, ← HT.out]; exact HLE.out _ hcm
        rcases hq with hq | ⟨hq, hq2⟩
        · go_wp2
          go_round
          case rel => exact ⟨(lo + hi) / 2 + 1, hi, by omega, hhi, hin, by go_num, rfl⟩
          case measure => simp [intOf]; omega
        · subst hq
          go_wp2
          go_round
          case rel => exact ⟨(lo + hi) / 2 + 1, hi, by omega, hhi, hin, by go_num, rfl⟩
          case measure => simp [intOf]; omega
      · have hq : ¬ leq k t key tie := by rw [← HK.out, ← HT.out]; exact HGT.out _ (by omega) (by omega)
        have hq1 : ¬ k < key := fun h => hq (Or.inl h)
        by_cases hq2 : k = key
        · have hq3 : ¬ t ≤ tie := fun h => hq (Or.inr ⟨hq2, h⟩)
          clear hq hq1
          subst hq2
          go_wp2
          go_round
          case rel => exact ⟨lo, (lo + hi) / 2, by omega, by omega, by omega, rfl, by go_num⟩
          case measure => simp [intOf]; omega
        · have hq4 : (k == key) = false := by simpa using hq2
          clear hq hq2
          go_wp2
          go_round
          case rel => exact ⟨lo, (lo + hi) / 2, by omega, by omega, by omega, rfl, by go_num⟩
          case measure => simp [intOf]; omega
    · have hl : lo = c + 1 := by omega
      subst hl
      go_wp2
      go_ret
      exact ⟨ret_int (by omega), _, rfl⟩

end Go.Proofs.Ybulkexnkw
