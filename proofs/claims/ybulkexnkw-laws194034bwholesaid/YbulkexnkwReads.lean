/-
  The small readers on the road of dropShaped.
-/
import Derived.Test.YbulkexnkwSame
import Derived.Deep.RegionWith
import Derived.BigRegion
namespace Go.Proofs.Ybulkexnkw
open Go.RowKit

set_option maxHeartbeats 400000 in
theorem rank_any (ch : Nat) (r : Int) (w : World) (h : w.cell? ⟨ch, 2, none⟩ = some (.int .i64 r)) :
    Calls Yba.prog 21 #[.pointer (some ⟨ch, 0, none⟩)] w fun e w' => e = .returned (.int .i64 r) ∧ ∃ q, w.drewN q = w' := by
  go_enter Yba.func21, Yba.ntmps21
  go_wp2
  go_ret
  exact ⟨rfl, 0, rfl⟩

set_option maxHeartbeats 400000 in
theorem size_any (ch : Nat) (r : Int) (w : World) (h : w.cell? ⟨ch, 3, none⟩ = some (.int .i64 r)) :
    Calls Yba.prog 29 #[.pointer (some ⟨ch, 0, none⟩)] w fun e w' => e = .returned (.int .i64 r) ∧ ∃ q, w.drewN q = w' := by
  go_enter Yba.func29, Yba.ntmps29
  go_wp2
  go_ret
  exact ⟨rfl, 0, rfl⟩

set_option maxHeartbeats 400000 in
theorem coupled_one (ch : Nat) (w : World) (h : w.cell? ⟨ch, 5, none⟩ = some (.int .i64 1)) :
    Calls Yba.prog 52 #[.pointer (some ⟨ch, 0, none⟩)] w fun e w' => e = .returned (.bool false) ∧ w = w' := by
  go_enter Yba.func52, Yba.ntmps52
  go_wp2
  go_ret
  exact ⟨rfl, rfl⟩
set_option maxHeartbeats 400000 in
theorem coupled_two (ch : Nat) (w : World) (h : w.cell? ⟨ch, 5, none⟩ = some (.int .i64 2)) :
    Calls Yba.prog 52 #[.pointer (some ⟨ch, 0, none⟩)] w fun e w' => e = .returned (.bool true) ∧ w = w' := by
  go_enter Yba.func52, Yba.ntmps52
  go_wp2
  go_ret
  exact ⟨rfl, rfl⟩

set_option maxHeartbeats 400000 in
theorem start_any (ch : Nat) (x : Int) (w : World) (hx1 : -9223372036854775808 ≤ x) (hx2 : x ≤ 9223372036854775807) (h0 : w.cell? ⟨ch, 0, none⟩ = some (.int .i64 x)) (h1 : w.cell? ⟨ch, 1, none⟩ = some (.int .i64 0)) :
    Calls Yba.prog 53 #[.pointer (some ⟨ch, 0, none⟩)] w fun e w' => e = .returned (.int .i64 x) ∧ ∃ q, w.drewN q = w' := by
  go_enter Yba.func53, Yba.ntmps53
  go_wp2
  go_quiet (fail)
  go_wp2
  go_ret
  exact ⟨rfl, _, rfl⟩

set_option maxHeartbeats 400000 in
theorem startOf_any (ch rb : Nat) (x : Int) (w : World) (hx1 : -9223372036854775808 ≤ x) (hx2 : x ≤ 9223372036854775807) (h0 : w.cell? ⟨ch, 0, none⟩ = some (.int .i64 0)) (h1 : w.cell? ⟨rb, 11, none⟩ = some (.int .i64 x)) :
    Calls Yba.prog 54 #[.pointer (some ⟨ch, 0, none⟩), .pointer (some ⟨rb, 0, none⟩)] w fun e w' => e = .returned (.int .i64 x) ∧ ∃ q, w.drewN q = w' := by
  go_enter Yba.func54, Yba.ntmps54
  go_wp2
  go_quiet (fail)
  go_wp2
  go_ret
  exact ⟨rfl, _, rfl⟩

/-- How the chain's last start lies in memory: a chain of one car, or of two. -/
def LastAt (w : World) (ch : Nat) (two : Bool) (x : Int) : Prop :=
  match two with
  | false => w.cell? ⟨ch, 5, none⟩ = some (.int .i64 1) ∧ w.cell? ⟨ch, 0, none⟩ = some (.int .i64 x) ∧ w.cell? ⟨ch, 1, none⟩ = some (.int .i64 0)
  | true => w.cell? ⟨ch, 5, none⟩ = some (.int .i64 2) ∧ w.cell? ⟨ch, 0, none⟩ = some (.int .i64 0) ∧
      ∃ cb rb cc, w.cell? ⟨ch, 19, none⟩ = some (.slice (some ⟨cb, 0, none⟩) 2 cc) ∧ w.cell? ⟨cb, 1, none⟩ = some (.pointer (some ⟨rb, 0, none⟩)) ∧ w.cell? ⟨rb, 11, none⟩ = some (.int .i64 x)

set_option maxHeartbeats 800000 in
theorem lastStart_any (ch : Nat) (two : Bool) (x : Int) (w : World) (hx1 : -9223372036854775808 ≤ x) (hx2 : x ≤ 9223372036854775807) (h : LastAt w ch two x) :
    Calls Yba.prog 24 #[.pointer (some ⟨ch, 0, none⟩)] w fun e w' => e = .returned (.int .i64 x) ∧ ∃ q, w.drewN q = w' := by
  cases two with
  | false =>
    obtain ⟨h5, h0, h1⟩ := h
    go_enter Yba.func24, Yba.ntmps24
    go_wp2_with (first | (go_at_call 52; refine (coupled_one _ _ h5).mono ?_; rintro e w' ⟨rfl, rfl⟩) | (go_at_call 53; refine (start_any _ x _ hx1 hx2 h0 h1).mono ?_; rintro e w' ⟨rfl, q, rfl⟩))
    go_ret
    exact ⟨rfl, _, rfl⟩
  | true =>
    obtain ⟨h5, h0, cb, rb, cc, h19, hc1, hr⟩ := h
    have HS : Hid (∀ q, Calls Yba.prog 54 #[.pointer (some ⟨ch, 0, none⟩), .pointer (some ⟨rb, 0, none⟩)] (w.drewN q) fun e w' => e = .returned (.int .i64 x) ∧ ∃ r, (w.drewN q).drewN r = w') := fun q => startOf_any ch rb x (w.drewN q) hx1 hx2 h0 hr
    go_enter Yba.func24, Yba.ntmps24
    go_wp2_with (go_at_call 52; refine (coupled_two _ _ h5).mono ?_; rintro e w' ⟨rfl, rfl⟩)
    go_region_with (go_at_call 54; refine (HS.out _).mono ?_; rintro e w' ⟨rfl, q, rfl⟩)
    all_goals (go_wp2; go_ret; exact ⟨rfl, _, rfl⟩)

/-- A reader's contract, met inside a region that draws. -/
theorem quiet_of_reader {P : Program} {f : FuncId} {args : Array Value} {w : World} {n : Nat} {v : Value}
    (h : Calls P f args (w.drewN n) fun e w' => e = .returned v ∧ ∃ r, (w.drewN n).drewN r = w') : Calls P f args (w.drewN n) fun e w'' => e = .returned v ∧ ∃ m, w'' = w.drewN m :=
  h.mono fun _ _ ⟨he, m, hm⟩ => ⟨he, n + m, by rw [← hm, drewN_drewN]⟩

/-- The list of the shape that holds the chain in queue order: its place in the shape. -/
def qOff (two : Bool) : Nat := if two then 10 else 6

set_option maxHeartbeats 400000 in
theorem inQueue_any (sh ch : Nat) (two : Bool) (x : Int) (w : World) (h : LastAt w ch two x) :
    Calls Yba.prog 25 #[.pointer (some ⟨sh, 0, none⟩), .pointer (some ⟨ch, 0, none⟩)] w fun e w' => e = .returned (.pointer (some ⟨sh, qOff two, none⟩)) ∧ ∃ q, w.drewN q = w' := by
  cases two with
  | false =>
    have h5 := h.1
    go_enter Yba.func25, Yba.ntmps25
    go_wp2_with (go_at_call 52; refine (coupled_one _ _ h5).mono ?_; rintro e w' ⟨rfl, rfl⟩)
    go_ret
    exact ⟨rfl, 0, rfl⟩
  | true =>
    have h5 := h.1
    go_enter Yba.func25, Yba.ntmps25
    go_wp2_with (go_at_call 52; refine (coupled_two _ _ h5).mono ?_; rintro e w' ⟨rfl, rfl⟩)
    go_ret
    exact ⟨rfl, 0, rfl⟩

set_option maxHeartbeats 400000 in
theorem emptyC_any (ob oo n c : Nat) (a : Option Addr) (w : World) (h1 : w.cell? ⟨ob, oo + 1, none⟩ = some (.slice a n c)) :
    Calls Yba.prog 26 #[.pointer (some ⟨ob, oo, none⟩)] w fun e w' => e = .returned (.bool ((n : Int) == 0)) ∧ w = w' := by
  go_enter Yba.func26, Yba.ntmps26
  go_wp2
  go_ret
  exact ⟨rfl, rfl⟩
set_option maxHeartbeats 400000 in
theorem emptyS_any (ob oo n c : Nat) (a : Option Addr) (w : World) (h1 : w.cell? ⟨ob, oo + 1, none⟩ = some (.slice a n c)) :
    Calls Yba.prog 32 #[.pointer (some ⟨ob, oo, none⟩)] w fun e w' => e = .returned (.bool ((n : Int) == 0)) ∧ w = w' := by
  go_enter Yba.func32, Yba.ntmps32
  go_wp2
  go_ret
  exact ⟨rfl, rfl⟩
set_option maxHeartbeats 400000 in
theorem lastKey_any (ob oo kb ko m c : Nat) (x : Int) (w : World) (hm : m ≤ 1000000) (h0 : w.cell? ⟨ob, oo, none⟩ = some (.slice (some ⟨kb, ko, none⟩) (m + 1) c)) (hx : w.cell? ⟨kb, ko + m, none⟩ = some (.int .i64 x)) :
    Calls Yba.prog 27 #[.pointer (some ⟨ob, oo, none⟩)] w fun e w' => e = .returned (.int .i64 x) ∧ ∃ q, w.drewN q = w' := by
  have hmm : m < m + 1 := by omega
  go_enter Yba.func27, Yba.ntmps27
  go_wp2
  go_region
  all_goals
    go_wp2
    go_ret
    exact ⟨rfl, 1, rfl⟩
set_option maxHeartbeats 400000 in
theorem firstKey_any (ob oo kb ko m c : Nat) (x : Int) (w : World) (h0 : w.cell? ⟨ob, oo, none⟩ = some (.slice (some ⟨kb, ko, none⟩) (m + 1) c)) (hx : w.cell? ⟨kb, ko, none⟩ = some (.int .i64 x)) :
    Calls Yba.prog 34 #[.pointer (some ⟨ob, oo, none⟩)] w fun e w' => e = .returned (.int .i64 x) ∧ w = w' := by
  go_enter Yba.func34, Yba.ntmps34
  go_wp2
  go_ret
  exact ⟨rfl, rfl⟩
end Go.Proofs.Ybulkexnkw
