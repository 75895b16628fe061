/-
  Contracts of 'ordered': holds, find (each by program out of one text).
-/
import Derived.Test.YbulkexnkwPl
import Derived.LaidEqlPtr
import Derived.Lib.Builder
namespace Go.Proofs.Ybulkexnkw
open Go.RowKit

theorem wrap_out {n : Nat} {i : Int} (hn : n ≤ 1000000) (hi : i < 0 ∨ n ≤ i) (hi1 : -9223372036854775808 ≤ i) (hi2 : i ≤ 9223372036854775807) : (n : Int) ≤ IntKind.u64.wrap i := by
  simp [IntKind.wrap, IntKind.signed, IntKind.bits]; omega
/-- A plain block of cells lies there. -/
def Obj (w : World) (p : Nat) : Prop := ∃ cs t, w.heap[p]? = some (.cells cs t (0, 0))

theorem size_of_map {P : Program} {t n : Nat} (h : (P.info? t).map (·.size) = some n) (hn : n ≠ 0) : ∃ j, P.info? t = some j ∧ j.size ≠ 0 := by
  cases e : P.info? t with
  | none => rw [e] at h; simp at h
  | some j => rw [e] at h; simp at h; exact ⟨j, rfl, by omega⟩
theorem Yba.size53 : (Yba.prog.info? 53).map (·.size) = some 32 := by kernel_rfl
theorem Yba.info53 : ∃ j, Yba.prog.info? 53 = some j ∧ j.size ≠ 0 := size_of_map Yba.size53 (by decide)

theorem Yba.size38 : (Yba.prog.info? 38).map (·.size) = some 14 := by kernel_rfl
theorem Yba.info38 : ∃ j, Yba.prog.info? 38 = some j ∧ j.size ≠ 0 := size_of_map Yba.size38 (by decide)

theorem Yba.size32 : (Yba.prog.info? 32).map (·.size) = some 6 := by kernel_rfl
theorem Yba.info32 : ∃ j, Yba.prog.info? 32 = some j ∧ j.size ≠ 0 := size_of_map Yba.size32 (by decide)

set_option maxHeartbeats 400000 in
theorem holdsC_out (ob oo vb n vc p : Nat) (i : Int) (w : World) (hn : n ≤ 1000000) (hi : i < 0 ∨ n ≤ i) (hi1 : -9223372036854775808 ≤ i) (hi2 : i ≤ 9223372036854775807)
    (h1 : w.cell? ⟨ob, oo + 1, none⟩ = some (.slice (some ⟨vb, 0, none⟩) n vc)) :
    Calls Yba.prog 50 #[.pointer (some ⟨ob, oo, none⟩), .int .i64 i, .pointer (some ⟨p, 0, none⟩)] w fun e w' => e = .returned (.bool false) ∧ w = w' := by
  have hw : (n : Int) ≤ IntKind.u64.wrap i := wrap_out hn hi hi1 hi2
  clear hi hi1 hi2
  go_enter Yba.func50, Yba.ntmps50
  go_wp2
  go_ret
  exact ⟨rfl, rfl⟩

set_option maxHeartbeats 400000 in
theorem holdsC_same (ob oo vb n vc p j : Nat) (w : World) (hn : n ≤ 1000000) (hj : j < n)
    (h1 : w.cell? ⟨ob, oo + 1, none⟩ = some (.slice (some ⟨vb, 0, none⟩) n vc)) (hr : w.cell? ⟨vb, j, none⟩ = some (.pointer (some ⟨p, 0, none⟩))) :
    Calls Yba.prog 50 #[.pointer (some ⟨ob, oo, none⟩), .int .i64 j, .pointer (some ⟨p, 0, none⟩)] w fun e w' => e = .returned (.bool true) ∧ w = w' := by
  obtain ⟨j0, hj0, _⟩ := Yba.info53
  have he := fun w => run_eql_ptr_same (P := Yba.prog) w (tp := 40) ⟨p, 0, none⟩ Yba.underlying40 hj0
  clear hj0
  go_enter Yba.func50, Yba.ntmps50
  go_wp2
  go_ret
  exact ⟨rfl, rfl⟩

set_option maxHeartbeats 400000 in
theorem holdsC_diff (ob oo vb n vc p r j : Nat) (w : World) (hn : n ≤ 1000000) (hj : j < n) (hne : r ≠ p) (hor : Obj w r) (hop : Obj w p)
    (h1 : w.cell? ⟨ob, oo + 1, none⟩ = some (.slice (some ⟨vb, 0, none⟩) n vc)) (hr : w.cell? ⟨vb, j, none⟩ = some (.pointer (some ⟨r, 0, none⟩))) :
    Calls Yba.prog 50 #[.pointer (some ⟨ob, oo, none⟩), .int .i64 j, .pointer (some ⟨p, 0, none⟩)] w fun e w' => e = .returned (.bool false) ∧ w = w' := by
  obtain ⟨c1, t1, hor⟩ := hor
  obtain ⟨c2, t2, hop⟩ := hop
  obtain ⟨j0, hj0, hs0⟩ := Yba.info53
  have he := run_eql_ptr_other (P := Yba.prog) w (tp := 40) (a := ⟨r, 0, none⟩) (b := ⟨p, 0, none⟩) Yba.underlying40 hj0 hs0 (fun h => hne (congrArg Addr.block h)) hor hop
  clear hne hor hop hj0 hs0
  go_enter Yba.func50, Yba.ntmps50
  go_wp2
  go_ret
  exact ⟨rfl, rfl⟩

set_option maxHeartbeats 400000 in
/-- 'find' where the hint holds the value. -/
theorem findC_hint (ob oo vb n vc p c : Nat) (key tie : Int) (w : World) (hn : n ≤ 1000000) (hc : c < n)
    (h1 : w.cell? ⟨ob, oo + 1, none⟩ = some (.slice (some ⟨vb, 0, none⟩) n vc)) (hr : w.cell? ⟨vb, c, none⟩ = some (.pointer (some ⟨p, 0, none⟩))) :
    Calls Yba.prog 23 #[.pointer (some ⟨ob, oo, none⟩), .int .i64 key, .int .i64 tie, .pointer (some ⟨p, 0, none⟩), .int .i64 c] w fun e w' => e = .returned (.int .i64 c) ∧ ∃ q, w.drewN q = w' := by
  go_enter Yba.func23, Yba.ntmps23
  go_wp2_with (go_at_call 50; refine (holdsC_same ob oo vb n vc p c _ hn hc h1 hr).mono ?_; rintro e w' ⟨rfl, rfl⟩)
  go_ret
  exact ⟨rfl, 0, rfl⟩

set_option maxHeartbeats 400000 in
/-- 'find' where the hint does not hold the value: it is found at its key. -/
theorem findC_place (ob oo kb vb tb n kc vc tc p c : Nat) (ks ts : List Int) (key tie hint : Int) (w : World) (hn : n ≤ 1000000) (hc : c < n)
    (h0 : w.cell? ⟨ob, oo, none⟩ = some (.slice (some ⟨kb, 0, none⟩) n kc)) (h1 : w.cell? ⟨ob, oo + 1, none⟩ = some (.slice (some ⟨vb, 0, none⟩) n vc)) (h2 : w.cell? ⟨ob, oo + 2, none⟩ = some (.slice (some ⟨tb, 0, none⟩) n tc))
    (hk : NumsAt w kb n ks) (ht : NumsAt w tb n ts) (hr : w.cell? ⟨vb, c, none⟩ = some (.pointer (some ⟨p, 0, none⟩)))
    (hle : ∀ j, j ≤ c → leq (ks.getD j 0) (ts.getD j 0) key tie) (hgt : ∀ j, c < j → j < n → ¬ leq (ks.getD j 0) (ts.getD j 0) key tie)
    (hh : Calls Yba.prog 50 #[.pointer (some ⟨ob, oo, none⟩), .int .i64 hint, .pointer (some ⟨p, 0, none⟩)] w fun e w' => e = .returned (.bool false) ∧ w = w') :
    Calls Yba.prog 23 #[.pointer (some ⟨ob, oo, none⟩), .int .i64 key, .int .i64 tie, .pointer (some ⟨p, 0, none⟩), .int .i64 hint] w fun e w' => e = .returned (.int .i64 c) ∧ ∃ q, w.drewN q = w' := by
  have hpl := placeC_any ob oo kb tb n kc tc ks ts key tie c w hn h0 h2 hk ht hc hle hgt
  have HH : Hid (Calls Yba.prog 50 #[.pointer (some ⟨ob, oo, none⟩), .int .i64 hint, .pointer (some ⟨p, 0, none⟩)] w fun e w' => e = .returned (.bool false) ∧ w = w') := hh
  have HPL : Hid (Calls Yba.prog 51 #[.pointer (some ⟨ob, oo, none⟩), .int .i64 key, .int .i64 tie] w fun e w' => e = .returned (.int .i64 c) ∧ ∃ q, w.drewN q = w') := hpl
  obtain ⟨j0, hj0, _⟩ := Yba.info53
  have he := fun w => Lib.run_neq_ptr_same (P := Yba.prog) w (tp := 40) ⟨p, 0, none⟩ Yba.underlying40 hj0
  clear hj0
  clear hh hpl hle hgt hk ht
  go_enter Yba.func23, Yba.ntmps23
  go_wp2_with (first | (go_at_call 50; refine HH.out.mono ?_; rintro e w' ⟨rfl, rfl⟩) | (go_at_call 51; refine HPL.out.mono ?_; rintro e w' ⟨rfl, q, rfl⟩))
  go_ret
  exact ⟨rfl, _, rfl⟩

set_option maxHeartbeats 400000 in
theorem holdsS_out (ob oo vb n vc p : Nat) (i : Int) (w : World) (hn : n ≤ 1000000) (hi : i < 0 ∨ n ≤ i) (hi1 : -9223372036854775808 ≤ i) (hi2 : i ≤ 9223372036854775807)
    (h1 : w.cell? ⟨ob, oo + 1, none⟩ = some (.slice (some ⟨vb, 0, none⟩) n vc)) :
    Calls Yba.prog 56 #[.pointer (some ⟨ob, oo, none⟩), .int .i64 i, .pointer (some ⟨p, 0, none⟩)] w fun e w' => e = .returned (.bool false) ∧ w = w' := by
  have hw : (n : Int) ≤ IntKind.u64.wrap i := wrap_out hn hi hi1 hi2
  clear hi hi1 hi2
  go_enter Yba.func56, Yba.ntmps56
  go_wp2
  go_ret
  exact ⟨rfl, rfl⟩

set_option maxHeartbeats 400000 in
theorem holdsS_same (ob oo vb n vc p j : Nat) (w : World) (hn : n ≤ 1000000) (hj : j < n)
    (h1 : w.cell? ⟨ob, oo + 1, none⟩ = some (.slice (some ⟨vb, 0, none⟩) n vc)) (hr : w.cell? ⟨vb, j, none⟩ = some (.pointer (some ⟨p, 0, none⟩))) :
    Calls Yba.prog 56 #[.pointer (some ⟨ob, oo, none⟩), .int .i64 j, .pointer (some ⟨p, 0, none⟩)] w fun e w' => e = .returned (.bool true) ∧ w = w' := by
  obtain ⟨j0, hj0, _⟩ := Yba.info38
  have he := fun w => run_eql_ptr_same (P := Yba.prog) w (tp := 33) ⟨p, 0, none⟩ Yba.underlying33 hj0
  clear hj0
  go_enter Yba.func56, Yba.ntmps56
  go_wp2
  go_ret
  exact ⟨rfl, rfl⟩

set_option maxHeartbeats 400000 in
theorem holdsS_diff (ob oo vb n vc p r j : Nat) (w : World) (hn : n ≤ 1000000) (hj : j < n) (hne : r ≠ p) (hor : Obj w r) (hop : Obj w p)
    (h1 : w.cell? ⟨ob, oo + 1, none⟩ = some (.slice (some ⟨vb, 0, none⟩) n vc)) (hr : w.cell? ⟨vb, j, none⟩ = some (.pointer (some ⟨r, 0, none⟩))) :
    Calls Yba.prog 56 #[.pointer (some ⟨ob, oo, none⟩), .int .i64 j, .pointer (some ⟨p, 0, none⟩)] w fun e w' => e = .returned (.bool false) ∧ w = w' := by
  obtain ⟨c1, t1, hor⟩ := hor
  obtain ⟨c2, t2, hop⟩ := hop
  obtain ⟨j0, hj0, hs0⟩ := Yba.info38
  have he := run_eql_ptr_other (P := Yba.prog) w (tp := 33) (a := ⟨r, 0, none⟩) (b := ⟨p, 0, none⟩) Yba.underlying33 hj0 hs0 (fun h => hne (congrArg Addr.block h)) hor hop
  clear hne hor hop hj0 hs0
  go_enter Yba.func56, Yba.ntmps56
  go_wp2
  go_ret
  exact ⟨rfl, rfl⟩

set_option maxHeartbeats 400000 in
/-- 'find' where the hint holds the value. -/
theorem findS_hint (ob oo vb n vc p c : Nat) (key tie : Int) (w : World) (hn : n ≤ 1000000) (hc : c < n)
    (h1 : w.cell? ⟨ob, oo + 1, none⟩ = some (.slice (some ⟨vb, 0, none⟩) n vc)) (hr : w.cell? ⟨vb, c, none⟩ = some (.pointer (some ⟨p, 0, none⟩))) :
    Calls Yba.prog 31 #[.pointer (some ⟨ob, oo, none⟩), .int .i64 key, .int .i64 tie, .pointer (some ⟨p, 0, none⟩), .int .i64 c] w fun e w' => e = .returned (.int .i64 c) ∧ ∃ q, w.drewN q = w' := by
  go_enter Yba.func31, Yba.ntmps31
  go_wp2_with (go_at_call 56; refine (holdsS_same ob oo vb n vc p c _ hn hc h1 hr).mono ?_; rintro e w' ⟨rfl, rfl⟩)
  go_ret
  exact ⟨rfl, 0, rfl⟩

set_option maxHeartbeats 400000 in
/-- 'find' where the hint does not hold the value: it is found at its key. -/
theorem findS_place (ob oo kb vb tb n kc vc tc p c : Nat) (ks ts : List Int) (key tie hint : Int) (w : World) (hn : n ≤ 1000000) (hc : c < n)
    (h0 : w.cell? ⟨ob, oo, none⟩ = some (.slice (some ⟨kb, 0, none⟩) n kc)) (h1 : w.cell? ⟨ob, oo + 1, none⟩ = some (.slice (some ⟨vb, 0, none⟩) n vc)) (h2 : w.cell? ⟨ob, oo + 2, none⟩ = some (.slice (some ⟨tb, 0, none⟩) n tc))
    (hk : NumsAt w kb n ks) (ht : NumsAt w tb n ts) (hr : w.cell? ⟨vb, c, none⟩ = some (.pointer (some ⟨p, 0, none⟩)))
    (hle : ∀ j, j ≤ c → leq (ks.getD j 0) (ts.getD j 0) key tie) (hgt : ∀ j, c < j → j < n → ¬ leq (ks.getD j 0) (ts.getD j 0) key tie)
    (hh : Calls Yba.prog 56 #[.pointer (some ⟨ob, oo, none⟩), .int .i64 hint, .pointer (some ⟨p, 0, none⟩)] w fun e w' => e = .returned (.bool false) ∧ w = w') :
    Calls Yba.prog 31 #[.pointer (some ⟨ob, oo, none⟩), .int .i64 key, .int .i64 tie, .pointer (some ⟨p, 0, none⟩), .int .i64 hint] w fun e w' => e = .returned (.int .i64 c) ∧ ∃ q, w.drewN q = w' := by
  have hpl := placeS_any ob oo kb tb n kc tc ks ts key tie c w hn h0 h2 hk ht hc hle hgt
  have HH : Hid (Calls Yba.prog 56 #[.pointer (some ⟨ob, oo, none⟩), .int .i64 hint, .pointer (some ⟨p, 0, none⟩)] w fun e w' => e = .returned (.bool false) ∧ w = w') := hh
  have HPL : Hid (Calls Yba.prog 57 #[.pointer (some ⟨ob, oo, none⟩), .int .i64 key, .int .i64 tie] w fun e w' => e = .returned (.int .i64 c) ∧ ∃ q, w.drewN q = w') := hpl
  obtain ⟨j0, hj0, _⟩ := Yba.info38
  have he := fun w => Lib.run_neq_ptr_same (P := Yba.prog) w (tp := 33) ⟨p, 0, none⟩ Yba.underlying33 hj0
  clear hj0
  clear hh hpl hle hgt hk ht
  go_enter Yba.func31, Yba.ntmps31
  go_wp2_with (first | (go_at_call 56; refine HH.out.mono ?_; rintro e w' ⟨rfl, rfl⟩) | (go_at_call 57; refine HPL.out.mono ?_; rintro e w' ⟨rfl, q, rfl⟩))
  go_ret
  exact ⟨rfl, _, rfl⟩

end Go.Proofs.Ybulkexnkw
