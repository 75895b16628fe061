/-
  The sort of the law's entries: the comparison's contract and slices.SortFunc's at this dump.
-/
import Derived.Test.YbulkexnkwRows
import Derived.Test.YbulkexnkwShelf
import Derived.WalkKit
import Derived.WalkSpells
import Derived.WalkLawsBesides
namespace Go.Proofs.Ybulkexnkw
open Go.RowKit Go.Shelf Go.Lib Go.Sort

/-- An entry: its key, its tie, its chain's block. -/
abbrev Ent := Int × Int × Nat
def encE (x : Ent) : List Value := [.int .i64 x.1, .int .i64 x.2.1, .pointer (some ⟨x.2.2, 0, none⟩)]
/-- The law's comparison. -/
def cmpE (x y : Ent) : Int := if compareInt x.1 y.1 ≠ 0 then compareInt x.1 y.1 else compareInt x.2.1 y.2.1

theorem ret_int' {k : IntKind} {a b : Int} (h : a = b) : Ending.returned (.int k a) = .returned (.int k b) := by rw [h]

set_option maxHeartbeats 400000 in
theorem isNaN_any (x : Int) (w : World) : Calls Yba.prog 20 #[.int .i64 x] w fun e w' => e = .returned (.bool false) ∧ w = w' := by
  go_enter Yba.func20, Yba.ntmps20
  go_wp2
  go_ret
  exact ⟨rfl, rfl⟩

set_option maxHeartbeats 400000 in
theorem compare_any (x y : Int) (w : World) : Calls Yba.prog 6 #[.int .i64 x, .int .i64 y] w fun e w' => e = .returned (.int .i64 (compareInt x y)) ∧ w = w' := by
  rcases (show x < y ∨ y < x ∨ x = y by omega) with h | h | h
  · have HC : Hid (-1 = compareInt x y) := by show _ = _; unfold compareInt; rw [if_pos h]
    go_enter Yba.func6, Yba.ntmps6
    go_wp2_with (go_at_call 20; refine (isNaN_any _ _).mono ?_; rintro e w' ⟨rfl, rfl⟩)
    go_ret
    exact ⟨ret_int' HC.out, rfl⟩
  · have HC : Hid (1 = compareInt x y) := by show _ = _; unfold compareInt; rw [if_neg (by omega), if_pos h]
    go_enter Yba.func6, Yba.ntmps6
    go_wp2_with (go_at_call 20; refine (isNaN_any _ _).mono ?_; rintro e w' ⟨rfl, rfl⟩)
    go_ret
    exact ⟨ret_int' HC.out, rfl⟩
  · subst h
    have HC : Hid (0 = compareInt x x) := by show _ = _; unfold compareInt; rw [if_neg (by omega), if_neg (by omega)]
    go_enter Yba.func6, Yba.ntmps6
    go_wp2_with (go_at_call 20; refine (isNaN_any _ _).mono ?_; rintro e w' ⟨rfl, rfl⟩)
    go_ret
    exact ⟨ret_int' HC.out, rfl⟩

set_option maxHeartbeats 800000 in
theorem closure5 (x y : Ent) (W : World) : Calls Yba.prog 5 #[.agg #[.int .i64 x.1, .int .i64 x.2.1, .pointer (some ⟨x.2.2, 0, none⟩)], .agg #[.int .i64 y.1, .int .i64 y.2.1, .pointer (some ⟨y.2.2, 0, none⟩)]] W fun e w' => e = .returned (.int .i64 (cmpE x y)) ∧ ∃ q os', w' = grow (W.drewN q) os' := by
  have c1 := compare_any x.1 y.1
  have c2 := compare_any x.2.1 y.2.1
  obtain ⟨r, hr⟩ : ∃ r, compareInt x.1 y.1 = r := ⟨_, rfl⟩
  by_cases h0 : r = 0
  · have HC : Hid (compareInt x.2.1 y.2.1 = cmpE x y) := by show _ = _; unfold cmpE; rw [hr, if_neg (by omega)]
    rw [hr, h0] at c1
    clear h0 hr
    have C1 : Hid (∀ w, Calls Yba.prog 6 #[.int .i64 x.1, .int .i64 y.1] w fun e w' => e = .returned (.int .i64 0) ∧ w = w') := c1
    have C2 : Hid (∀ w, Calls Yba.prog 6 #[.int .i64 x.2.1, .int .i64 y.2.1] w fun e w' => e = .returned (.int .i64 (compareInt x.2.1 y.2.1)) ∧ w = w') := c2
    clear c1 c2
    go_enter Yba.func5, Yba.ntmps5
    go_wp2_with fail
    refine (C1.out _).mono ?_
    rintro e w' ⟨rfl, rfl⟩
    go_wp2_with fail
    refine (C2.out _).mono ?_
    rintro e w' ⟨rfl, rfl⟩
    go_wp2
    go_ret
    exact ⟨ret_int' HC.out, 0, _, by rw [alloc_eq_grow, alloc_eq_grow, grow_grow]; rfl⟩
  · have HC : Hid (r = cmpE x y) := by show _ = _; unfold cmpE; rw [hr, if_pos h0]
    rw [hr] at c1
    have h0' : (r != 0) = true := by simpa using h0
    have C1 : Hid (∀ w, Calls Yba.prog 6 #[.int .i64 x.1, .int .i64 y.1] w fun e w' => e = .returned (.int .i64 r) ∧ w = w') := c1
    clear c1 c2 h0 hr
    go_enter Yba.func5, Yba.ntmps5
    go_wp2_with fail
    refine (C1.out _).mono ?_
    rintro e w' ⟨rfl, rfl⟩
    go_wp2
    go_ret
    exact ⟨ret_int' HC.out, 0, _, by rw [alloc_eq_grow, alloc_eq_grow, grow_grow]; rfl⟩

theorem cmpLays5 (blk off size : Nat) (w : World) : CmpLays Yba.prog 5 #[] encE 3 cmpE blk off size w :=
  fun _ _ _ _ x y => closure5 x y _

theorem ltE (x y : Ent) : ltOf cmpE x y = decide (x.1 < y.1 ∨ (x.1 = y.1 ∧ x.2.1 < y.2.1)) := by
  unfold ltOf cmpE compareInt
  rw [Bool.eq_iff_iff]; simp only [decide_eq_true_eq]
  repeat' split
  all_goals omega
theorem swoE : SWO (ltOf cmpE) where
  irrefl x := by rw [ltE]; simp
  trans x y z h1 h2 := by rw [ltE] at *; simp only [decide_eq_true_eq] at *; omega
  ntrans x y z h1 h2 := by rw [ltE] at *; simp only [decide_eq_false_iff_not] at *; omega

/-- slices.SortFunc at the entries: a permutation, sorted. -/
theorem sort_any (blk off cap : Nat) (d : Array Ent) (w : World) (hH : HoldsK encE 3 w blk off d) (hblk : blk < w.heap.size) (hsz : d.size < 4611686018427387904) :
    Calls Yba.prog 4 #[.slice (some ⟨blk, off, none⟩) d.size cap, .func (.func 5) #[] #[]] w fun e w' => e = .returned (.tuple #[]) ∧ ∃ d' n os, PermIn 0 d.size d d' ∧ SortedIn (ltOf cmpE) 0 d.size d' ∧ w' = sortWorldK encE 3 w blk off n d' os := by
  have eg : ∀ args w, (callFunc 5 args).run Yba.prog w = .ok (.enter 5 args) w := enters_of Yba.func5 (by kernel_rfl) rfl
  exact AnyQ.slices_SortFunc Yba.sortEnt 3 Yba.isAgg61 Yba.sizeOf61 encE (fun _ => rfl) (fun x v hv => by simp [encE] at hv; rcases hv with rfl | rfl | rfl <;> rfl) cmpE swoE 5 #[] blk off cap d w eg (cmpLays5 blk off d.size w) hH hblk hsz
end Go.Proofs.Ybulkexnkw
