/-
  Contracts of the small functions: digitValue (8), zzs194038bdigit (6), zzs194038bischar (7), isChar (11).
-/
import Derived.Test.YbulkexnnaFmtRows
import Derived.WalkKit
import Derived.WalkSpells
import Derived.WalkLawsBesides
namespace Go.Proofs.YbulkexnnaFmt
open Go.RowKit

/-- The value of a hexadecimal digit, 16 for any other byte. -/
def dv (c : Int) : Int := if 48 ≤ c ∧ c ≤ 57 then c - 48 else if 97 ≤ c ∧ c ≤ 102 then c - 87 else if 65 ≤ c ∧ c ≤ 70 then c - 55 else 16

theorem dv_le (c : Int) : 0 ≤ dv c ∧ dv c ≤ 16 := by unfold dv; split <;> (try split) <;> (try split) <;> omega

theorem ret_int {k : IntKind} {a b : Int} (h : a = b) : Ending.returned (.int k a) = .returned (.int k b) := by rw [h]

set_option maxHeartbeats 400000 in
theorem digitValue_any (c : Int) (w : World) (h0 : 0 ≤ c) (h1 : c ≤ 255) :
    Calls Ybaf.prog 8 #[.int .u8 c] w fun e w' => e = .returned (.int .i32 (dv c)) ∧ w = w' := by
  rcases (show (48 ≤ c ∧ c ≤ 57) ∨ (97 ≤ c ∧ c ≤ 102) ∨ (65 ≤ c ∧ c ≤ 70) ∨ (c < 48 ∨ (57 < c ∧ c < 65) ∨ (70 < c ∧ c < 97) ∨ 102 < c) by omega) with ⟨ha, hb⟩ | ⟨ha, hb⟩ | ⟨ha, hb⟩ | h
  · go_enter Ybaf.func8, Ybaf.ntmps8
    go_wp2
    go_ret
    exact ⟨ret_int (by unfold dv; rw [if_pos ⟨ha, hb⟩]), rfl⟩
  · go_enter Ybaf.func8, Ybaf.ntmps8
    go_wp2
    go_ret
    exact ⟨ret_int (by unfold dv; rw [if_neg (by omega), if_pos ⟨ha, hb⟩]; omega), rfl⟩
  · go_enter Ybaf.func8, Ybaf.ntmps8
    go_wp2
    go_ret
    exact ⟨ret_int (by unfold dv; rw [if_neg (by omega), if_neg (by omega), if_pos ⟨ha, hb⟩]; omega), rfl⟩
  · have hr : Hid ((16 : Int) = dv c) := by show (16 : Int) = dv c; unfold dv; rw [if_neg (by omega), if_neg (by omega), if_neg (by omega)]
    rcases h with h | ⟨h2, h3⟩ | ⟨h2, h3⟩ | h
    all_goals
      go_enter Ybaf.func8, Ybaf.ntmps8
      go_wp2
      go_ret
      exact ⟨ret_int hr.out, rfl⟩

/-- An XML character (production [2]). -/
def chB (r : Int) : Bool := decide (r = 9 ∨ r = 10 ∨ r = 13 ∨ (32 ≤ r ∧ r ≤ 55295) ∨ (57344 ≤ r ∧ r ≤ 65533) ∨ (65536 ≤ r ∧ r ≤ 1114111))

theorem ret_bool {a b : Bool} (h : a = b) : Ending.returned (.bool a) = .returned (.bool b) := by rw [h]

theorem chB_eq {r : Int} (hn : r ≠ 9 ∧ r ≠ 10 ∧ r ≠ 13) {b : Bool} (h : b = decide ((32 ≤ r ∧ r ≤ 55295) ∨ (57344 ≤ r ∧ r ≤ 65533) ∨ (65536 ≤ r ∧ r ≤ 1114111))) : b = chB r := by
  rw [h]; unfold chB; rw [Bool.eq_iff_iff, decide_eq_true_eq, decide_eq_true_eq]; omega

set_option maxHeartbeats 1600000 in
theorem isChar_any (r : Int) (w : World) :
    Calls Ybaf.prog 11 #[.int .i32 r] w fun e w' => e = .returned (.bool (chB r)) ∧ w = w' := by
  rcases (show r = 9 ∨ r = 10 ∨ r = 13 ∨ (r ≠ 9 ∧ r ≠ 10 ∧ r ≠ 13) by omega) with h | h | h | ⟨h9, h10, h13⟩
  · subst h
    have HC : Hid (chB 9 = true) := by show chB 9 = true; decide
    go_enter Ybaf.func11, Ybaf.ntmps11
    go_wp2
    go_ret
    exact ⟨ret_bool HC.out.symm, rfl⟩
  · subst h
    have HC : Hid (chB 10 = true) := by show chB 10 = true; decide
    go_enter Ybaf.func11, Ybaf.ntmps11
    go_wp2
    go_ret
    exact ⟨ret_bool HC.out.symm, rfl⟩
  · subst h
    have HC : Hid (chB 13 = true) := by show chB 13 = true; decide
    go_enter Ybaf.func11, Ybaf.ntmps11
    go_wp2
    go_ret
    exact ⟨ret_bool HC.out.symm, rfl⟩
  · have q9 : (r == 9) = false := by simpa using h9
    have q10 : (r == 10) = false := by simpa using h10
    have q13 : (r == 13) = false := by simpa using h13
    have HN : Hid (r ≠ 9 ∧ r ≠ 10 ∧ r ≠ 13) := ⟨h9, h10, h13⟩
    clear h9 h10 h13
    rcases (show r < 32 ∨ (32 ≤ r ∧ r ≤ 55295) ∨ (55295 < r ∧ r < 57344) ∨ (57344 ≤ r ∧ r ≤ 65533) ∨ (65533 < r ∧ r < 65536) ∨ (65536 ≤ r ∧ r ≤ 1114111) ∨ 1114111 < r by omega) with
      h | ⟨h, h'⟩ | ⟨h, h'⟩ | ⟨h, h'⟩ | ⟨h, h'⟩ | ⟨h, h'⟩ | h
    all_goals
      go_enter Ybaf.func11, Ybaf.ntmps11
      go_wp2
      all_goals
        go_ret
        exact ⟨ret_bool (chB_eq HN.out (by first | (rw [Bool.eq_iff_iff]; simp; omega) | (simp; omega))), rfl⟩

set_option maxHeartbeats 1600000 in
theorem ischar_any (r : Int) (w : World) :
    Calls Ybaf.prog 7 #[.int .i64 r] w fun e w' => e = .returned (.bool (chB r)) ∧ w = w' := by
  rcases (show r = 9 ∨ r = 10 ∨ r = 13 ∨ (r ≠ 9 ∧ r ≠ 10 ∧ r ≠ 13) by omega) with h | h | h | ⟨h9, h10, h13⟩
  · subst h
    have HC : Hid (chB 9 = true) := by show chB 9 = true; decide
    go_enter Ybaf.func7, Ybaf.ntmps7
    go_wp2
    go_ret
    exact ⟨ret_bool HC.out.symm, rfl⟩
  · subst h
    have HC : Hid (chB 10 = true) := by show chB 10 = true; decide
    go_enter Ybaf.func7, Ybaf.ntmps7
    go_wp2
    go_ret
    exact ⟨ret_bool HC.out.symm, rfl⟩
  · subst h
    have HC : Hid (chB 13 = true) := by show chB 13 = true; decide
    go_enter Ybaf.func7, Ybaf.ntmps7
    go_wp2
    go_ret
    exact ⟨ret_bool HC.out.symm, rfl⟩
  · have q9 : (r == 9) = false := by simpa using h9
    have q10 : (r == 10) = false := by simpa using h10
    have q13 : (r == 13) = false := by simpa using h13
    have HN : Hid (r ≠ 9 ∧ r ≠ 10 ∧ r ≠ 13) := ⟨h9, h10, h13⟩
    clear h9 h10 h13
    rcases (show r < 32 ∨ (32 ≤ r ∧ r ≤ 55295) ∨ (55295 < r ∧ r < 57344) ∨ (57344 ≤ r ∧ r ≤ 65533) ∨ (65533 < r ∧ r < 65536) ∨ (65536 ≤ r ∧ r ≤ 1114111) ∨ 1114111 < r by omega) with
      h | ⟨h, h'⟩ | ⟨h, h'⟩ | ⟨h, h'⟩ | ⟨h, h'⟩ | ⟨h, h'⟩ | h
    all_goals
      go_enter Ybaf.func7, Ybaf.ntmps7
      go_wp2
      all_goals
        go_ret
        exact ⟨ret_bool (chB_eq HN.out (by first | (rw [Bool.eq_iff_iff]; simp; omega) | (simp; omega))), rfl⟩

/-- The law's own digit: 'dv' below the base, else -1. -/
def zd (c base : Int) : Int := if dv c < base then dv c else -1

/-- The two texts of digits, at place k. -/
def lo (k : Nat) : Int := if k < 10 then 48 + k else 87 + k
def up (k : Nat) : Int := if k < 10 then 48 + k else 55 + k

theorem lo_at (k : Nat) (h : k < 16) : ((ByteArray.mk #[48, 49, 50, 51, 52, 53, 54, 55, 56, 57, 97, 98, 99, 100, 101, 102])[k]'h).toNat = lo k := by
  revert k; decide
theorem up_at (k : Nat) (h : k < 16) : ((ByteArray.mk #[48, 49, 50, 51, 52, 53, 54, 55, 56, 57, 65, 66, 67, 68, 69, 70])[k]'h).toNat = up k := by
  revert k; decide

theorem zd_hit (c : Int) (k : Nat) (base : Int) (hk : (k : Int) < base) (hb : base = 10 ∨ base = 16) (h : lo k = c ∨ up k = c) : (k : Int) = zd c base := by
  unfold zd dv lo up at *
  split at h <;> rcases h with h | h <;> (repeat' split) <;> omega
theorem zd_miss (c base : Int) (hb : base = 10 ∨ base = 16) (h : ∀ j : Nat, (j : Int) < base → lo j ≠ c ∧ up j ≠ c) : -1 = zd c base := by
  unfold zd
  split
  · exfalso
    have h0 := dv_le c
    obtain ⟨h1, h2⟩ := h (dv c).toNat (by omega)
    unfold dv lo up at *
    (repeat' split at *) <;> omega
  · rfl
set_option maxHeartbeats 800000 in
theorem zdig_any (c base : Int) (w : World) (hb : base = 10 ∨ base = 16) :
    Calls Ybaf.prog 6 #[.int .u8 c, .int .i64 base] w fun e w' => e = .returned (.int .i64 (zd c base)) ∧ w = w' := by
  have HB : Hid (base = 10 ∨ base = 16) := hb
  have hb1 : 0 ≤ base := by omega
  have hb2 : base ≤ 16 := by omega
  clear hb
  go_enter Ybaf.func6, Ybaf.ntmps6
  go_wp2
  go_loop [5] (fun i => ∃ k : Nat, (k : Int) ≤ base ∧ i = .int .i64 k ∧ Hid (∀ j : Nat, j < k → lo j ≠ c ∧ up j ≠ c)) (fun i => base.toNat - (intOf i).toNat)
  case atStart => exact ⟨0, by simpa using hb1, rfl, fun j h => by omega⟩
  case round =>
    obtain ⟨k, hk, rfl, hd⟩ := hrel
    by_cases hlt : (k : Int) < base
    · have hk16 : k < 16 := by omega
      have hl := lo_at k hk16
      have hu := up_at k hk16
      by_cases e1 : lo k = c
      · have hz := zd_hit c k base hlt HB.out (Or.inl e1)
        have HZ : Hid ((k : Int) = zd c base) := hz
        have e1' : (lo k == c) = true := by simpa using e1
        clear hz e1
        go_wp2
        go_ret
        exact ⟨ret_int HZ.out, rfl⟩
      · by_cases e2 : up k = c
        · have hz := zd_hit c k base hlt HB.out (Or.inr e2)
          have HZ : Hid ((k : Int) = zd c base) := hz
          have e1' : (lo k == c) = false := by simpa using e1
          have e2' : (up k == c) = true := by simpa using e2
          clear hz e1 e2
          go_wp2
          go_ret
          exact ⟨ret_int HZ.out, rfl⟩
        · have e1' : (lo k == c) = false := by simpa using e1
          have e2' : (up k == c) = false := by simpa using e2
          have HE : Hid (lo k ≠ c ∧ up k ≠ c) := ⟨e1, e2⟩
          clear e1 e2
          go_wp2
          go_round
          case rel => exact ⟨k + 1, by omega, by go_num, fun j hj => by
            by_cases e : j = k
            · subst e; exact HE.out
            · exact hd.out j (by omega)⟩
          case measure => simp [intOf]; omega
    · go_wp2
      go_ret
      exact ⟨ret_int (zd_miss c base HB.out (fun j hj => hd.out j (by omega))), rfl⟩
end Go.Proofs.YbulkexnnaFmt
