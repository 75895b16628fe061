import Derived.Test.YbulkexnmmRows
import Derived.WalkKit
import Derived.WalkSpells
import Derived.WalkLawsBesides
import Derived.Deep.QuietTactic
import Derived.BigQuiet
namespace Go.Proofs.Ybulkexnmm
open Go.RowKit

/-- Byte 'j' of 's' is an ASCII digit. -/
def digAt (s : ByteArray) (j : Nat) : Prop := ∃ h : j < s.size, 48 ≤ (s[j].toNat : Int) ∧ (s[j].toNat : Int) ≤ 57

set_option maxHeartbeats 400000 in
theorem lead_any (s : ByteArray) (w : World) (hs : s.size ≤ maxLen) :
    Calls Yba.prog 4 #[.string s] w fun e w' => ∃ k n : Nat, k ≤ s.size ∧ e = .returned (.tuple #[.string (s.extract 0 k), .string (s.extract k s.size)]) ∧ w.drewN n = w' ∧ (∀ j, j < k → digAt s j) ∧ ¬ digAt s k := by
  unfold maxLen at hs
  go_enter Yba.func4, Yba.ntmps4
  go_wp2
  go_loop [4] (fun i => ∃ k : Nat, k ≤ s.size ∧ i = .int .i64 k ∧ ∀ j, j < k → digAt s j) (fun i => s.size - (intOf i).toNat)
  case atStart => exact ⟨0, Nat.zero_le _, rfl, fun j h => by omega⟩
  case round =>
    obtain ⟨k, hk, rfl, hd⟩ := hrel
    by_cases hlt : k < s.size
    · by_cases hdig : 48 ≤ (s[k].toNat : Int) ∧ (s[k].toNat : Int) ≤ 57
      · obtain ⟨h1, h2⟩ := hdig
        go_wp2
        go_round
        case rel => exact ⟨k + 1, by omega, by go_num, fun j hj => by
          by_cases e : j = k
          · subst e; exact ⟨hlt, h1, h2⟩
          · exact hd j (by omega)⟩
        case measure => simp [intOf]; omega
      · go_wp2
        all_goals
          go_quiet (fail)
          go_wp2
          go_ret2
          exact ⟨k, _, hk, rfl, rfl, hd, fun ⟨_, h⟩ => hdig h⟩
    · go_wp2
      go_quiet (fail)
      go_wp2
      go_ret2
      exact ⟨k, _, hk, rfl, rfl, hd, fun ⟨h, _⟩ => hlt h⟩

theorem size_ext (s : ByteArray) (a b : Nat) : (s.extract a b).size = min b s.size - a := by simp

theorem get_ext (s : ByteArray) (a b j : Nat) (h : j < (s.extract a b).size) (h' : a + j < s.size) : (s.extract a b)[j] = s[a + j] := by
  simp [ByteArray.getElem_extract]

/-- What 'leadingDigits' answers, said of the two parts alone. -/
theorem lead_parts (s : ByteArray) (w : World) (hs : s.size ≤ maxLen) :
    Calls Yba.prog 4 #[.string s] w fun e w' => ∃ (d r : ByteArray) (n : Nat), e = .returned (.tuple #[.string d, .string r]) ∧ w.drewN n = w' ∧ d.size + r.size = s.size ∧
      s.extract 0 d.size = d ∧ s.extract d.size s.size = r ∧ (∀ j (h : j < d.size), 48 ≤ (d[j].toNat : Int) ∧ (d[j].toNat : Int) ≤ 57) ∧ (∀ h : 0 < r.size, ¬ (48 ≤ (r[0].toNat : Int) ∧ (r[0].toNat : Int) ≤ 57)) := by
  refine (lead_any s w hs).mono ?_
  rintro e w' ⟨k, n, hk, rfl, hw, hd, hn⟩
  have e0 : (s.extract 0 k).size = k := by rw [size_ext]; omega
  have e1 : (s.extract k s.size).size = s.size - k := by rw [size_ext]; omega
  refine ⟨_, _, n, rfl, hw, by rw [e0, e1]; omega, by rw [e0], by rw [e0], fun j h => ?_, fun h => ?_⟩
  · obtain ⟨h1, h2⟩ := hd j (by omega)
    rw [get_ext s 0 k j h (by omega)]
    simpa using h2
  · intro hc
    rw [get_ext s k s.size 0 h (by omega)] at hc
    exact hn ⟨by omega, by simpa using hc⟩
end Go.Proofs.Ybulkexnmm
