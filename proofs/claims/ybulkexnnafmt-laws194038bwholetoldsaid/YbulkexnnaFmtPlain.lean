/-
  Contracts of utf8.RuneStart (14), the cutter (12), excerpt.note (13), excerpt.Plain (10) at this dump.
-/
import Derived.Test.YbulkexnnaFmtSmall
import Derived.Test.YbulkexnnaFmtFmt
import Derived.Stop.Texts
import Derived.Stop.JoinedTold
import Derived.Deep.QuietTactic
import Derived.BigQuiet
import Derived.Deep.RegionWith
namespace Go.Proofs.YbulkexnnaFmt
open Go.RowKit Go.Kit Go.Extern.Stop Go.Stop Go.Extern
attribute [local go_sem] Ybaf.call9 Ybaf.guard Ybaf.fmt0 Ybaf.fmt0r Ybaf.fmt1 Ybaf.fmt1r Ybaf.fmt2 Ybaf.fmt2r Ybaf.fmt3 Ybaf.fmt3r Ybaf.op3_100 Ybaf.op9_115

set_option maxHeartbeats 400000 in
theorem runeStart_any (c : Int) (w : World) :
    Calls Ybaf.prog 14 #[.int .u8 c] w fun e w' => ∃ b : Bool, e = .returned (.bool b) ∧ w = w' := by
  go_enter Ybaf.func14, Ybaf.ntmps14
  go_wp2
  go_ret
  exact ⟨_, rfl, rfl⟩

/-- The slice's cells: 'xs' from the head of block 'b' on. -/
def Row (w : World) (b n : Nat) (xs : List Int) : Prop := ∀ i, i < n → w.cell? ⟨b, i, none⟩ = some (.int .u8 (xs.getD i 0))

set_option maxHeartbeats 400000 in
theorem cut_small (b n cap : Nat) (w : World) (hs : n ≤ 256) :
    Calls Ybaf.prog 12 #[.slice (some ⟨b, 0, none⟩) n cap] w fun e w' => e = .returned (.tuple #[.slice (some ⟨b, 0, none⟩) n cap, .bool false]) ∧ w = w' := by
  go_enter Ybaf.func12, Ybaf.ntmps12
  go_wp2
  go_ret2
  exact ⟨rfl, rfl⟩

set_option maxHeartbeats 800000 in
theorem cut_big (b n cap : Nat) (xs : List Int) (w : World) (hc : Row w b n xs) (hn : n ≤ cap) (hm : cap ≤ 2000000) (hs : 256 < n) :
    Calls Ybaf.prog 12 #[.slice (some ⟨b, 0, none⟩) n cap] w fun e w' => ∃ m : Nat, m ≤ 256 ∧ e = .returned (.tuple #[.slice (some ⟨b, 0, none⟩) m cap, .bool true]) ∧ w = w' := by
  go_enter Ybaf.func12, Ybaf.ntmps12
  go_wp2
  go_loop [4, 5] (fun m i => ∃ k : Nat, 1 ≤ k ∧ k ≤ 4 ∧ i = .int .i64 k ∧ m = .int .i64 ((257 - k : Nat) : Int)) (fun _ i => 4 - (intOf i).toNat)
  case atStart => exact ⟨1, by omega, by omega, rfl, rfl⟩
  case round =>
    obtain ⟨k, hk1, hk4, rfl, rfl⟩ := hrel
    by_cases hlt : k < 4
    · have hcell := hc (257 - k) (by omega)
      have hb : 257 - k < n := by omega
      go_wp2_with (go_at_call 14; refine (runeStart_any _ _).mono ?_; rintro e w' ⟨bb, rfl, rfl⟩)
      · go_round
        case rel => exact ⟨k + 1, by omega, by omega, by go_num, by go_num⟩
        case measure => simp [intOf]; omega
      · go_ret2
        exact ⟨257 - k, by omega, rfl, rfl⟩
    · go_wp2
      go_ret2
      exact ⟨257 - k, by omega, rfl, rfl⟩

set_option maxHeartbeats 400000 in
theorem note_all (F : Interp) (a t : Int) (u : ByteArray) (w : World) (hF : F.answers w.tape) :
    Calls Ybaf.prog 13 #[.int .i64 a, .int .i64 t, .string u] w fun e w' => e = .returned (.string (FmtStop.textOf (F "fmt.Sprintf" [Ybaf.fb3, Ybaf.shape3, digits 8 (a % 18446744073709551616).toNat, Ybaf.shape3, digits 8 (t % 18446744073709551616).toNat, Ybaf.shape9, FmtStop.pack u.data.toList] 0))) ∧
      w' = (w.alloc (.cells #[.iface 3 (.int .i64 a), .iface 3 (.int .i64 t), .iface 9 (.string u)] 20)).drew := by
  have hF' := answers_open hF
  go_enter Ybaf.func13, Ybaf.ntmps13
  go_wp2
  go_ret
  exact ⟨rfl, rfl⟩

/-- What fmt is asked for the note. -/
def noteReading (a t : Int) (u : List UInt8) : List (List UInt8) :=
  [Ybaf.fb3, Ybaf.shape3, digits 8 (a % 18446744073709551616).toNat, Ybaf.shape3, digits 8 (t % 18446744073709551616).toNat, Ybaf.shape9, FmtStop.pack u]
def noteText (a t : Int) (u : List UInt8) : List UInt8 :=
  [32, 40, 116, 104, 101, 32, 102, 105, 114, 115, 116, 32] ++ Lib.itoa a ++ [32, 111, 102, 32] ++ Lib.itoa t ++ [32] ++ u ++ [41]

theorem note_text (a t : Int) (u : List UInt8) (hu : u.length < 2 ^ 64) (ha : (Lit.int .i64 a).wf = true) (ht : (Lit.int .i64 t).wf = true) : FmtText.text "fmt.Sprintf" (noteReading a t u) = some (noteText a t u) := by
  have h1 := FmtText.operand_int_at (sh := Ybaf.shape3) (k := .i64) rfl rfl a ha
  have h2 := FmtText.operand_int_at (sh := Ybaf.shape3) (k := .i64) rfl rfl t ht
  have h3 := FmtText.operand_str_at (sh := Ybaf.shape9) rfl rfl u hu
  rw [noteReading, Ybaf.fb3, FmtText.text_sprintf_glued Ybaf.fmt3t (FmtText.operands_cons h1 (FmtText.operands_cons h2 (FmtText.operands_cons h3 FmtText.operands_nil)))]
  simp [FmtText.render, FmtText.printArg_d _ _ ha, FmtText.printArg_d _ _ ht, FmtText.printArg_s_str, noteText]

/-- The note's text is short. -/
theorem note_short (F : Interp) (a t : Int) (u : ByteArray) (hu : u.size ≤ 1000) (ha : (Lit.int .i64 a).wf = true) (ht : (Lit.int .i64 t).wf = true) :
    (FmtStop.textOf (F.told "fmt.Sprintf" (noteReading a t u.data.toList) 0)).size ≤ 1100 := by
  have hul : u.data.toList.length ≤ 1000 := by rw [Array.length_toList]; exact hu
  have l1 := FmtText.itoa_length_le ha
  have l2 := FmtText.itoa_length_le ht
  have hlen : (noteText a t u.data.toList).length ≤ 1100 := by simp only [noteText, List.length_append, List.length_cons, List.length_nil]; omega
  have hs := told_string F (note_text a t u.data.toList (by omega) ha ht) (by omega)
  have e : (FmtStop.textOf (F.told "fmt.Sprintf" (noteReading a t u.data.toList) 0)).data.toList.length ≤ 1100 := by rw [textOf_list, hs]; exact hlen
  rw [Array.length_toList] at e
  exact e

theorem note_any (F : Interp) (a t : Int) (u : ByteArray) (w : World) (hF : F.told.answers w.tape) (hu : u.size ≤ 1000) (ha : (Lit.int .i64 a).wf = true) (ht : (Lit.int .i64 t).wf = true) :
    Calls Ybaf.prog 13 #[.int .i64 a, .int .i64 t, .string u] w fun e w' => ∃ s : ByteArray, s.size ≤ 1100 ∧ e = .returned (.string s) ∧ Below w.heap.size w w' := by
  refine (note_all F.told a t u w hF).mono ?_
  rintro e w' ⟨rfl, rfl⟩
  exact ⟨_, note_short F a t u hu ha ht, rfl, ((Below.refl _ _).alloc (Nat.le_refl _) _).drew⟩

theorem bytes_of (b n cap : Nat) (xs : List Int) (w : World) (hl : xs.length = n) (hc : Row w b n xs) :
    (convert 22 9 (.slice (some ⟨b, 0, none⟩) n cap)).run Ybaf.prog w = .ok (.string (strOfNums xs)) w :=
  run_convert_bytes_arg w 22 5 Ybaf.underlying22 Ybaf.underlying5 b 0 n cap xs hl (fun i hi => by simpa using hc i hi) 9 Ybaf.underlying9

theorem row_take {w : World} {b n m : Nat} {xs : List Int} (h : Row w b n xs) (hm : m ≤ n) : Row w b m (xs.take m) := by
  intro i hi
  rw [h i (by omega)]
  simp [List.getD, hi]
theorem row_below {w w' : World} {b n : Nat} {xs : List Int} (h : Row w b n xs) (hb : Below w.heap.size w w') (hlt : b < w.heap.size) : Row w' b n xs :=
  fun i hi => (hb.cell (p := ⟨b, i, none⟩) hlt).trans (h i hi)
theorem wf_i64 (x : Int) (h0 : -9223372036854775808 ≤ x) (h1 : x ≤ 9223372036854775807) : (Lit.int .i64 x).wf = true := by
  simp [Lit.wf, IntKind.min, IntKind.max, IntKind.signed, IntKind.bits]; omega
theorem size_strOf (xs : List Int) : (strOfNums xs).size = xs.length := by simp [strOfNums, ByteArray.size]

theorem size3 (a d s : ByteArray) (ha : a.size ≤ 256) (hs : s.size ≤ 1100) (hd : d.size ≤ 600 := by decide) : (a ++ d ++ s).size ≤ 2000 := by
  rw [ByteArray.size_append, ByteArray.size_append]; omega
theorem below_of_drew {w w1 : World} (h : Below w.drew.heap.size w.drew w1) : Below w.heap.size w w1 := ⟨h.os, h.tape, h.output, h.size, h.block⟩

set_option maxHeartbeats 800000 in
theorem plain_small (b n cap : Nat) (xs : List Int) (w : World) (hl : xs.length = n) (hc : Row w b n xs) (hs : n ≤ 256) :
    Calls Ybaf.prog 10 #[.slice (some ⟨b, 0, none⟩) n cap] w fun e w' => ∃ s : ByteArray, s.size ≤ 2000 ∧ e = .returned (.string s) ∧ Below w.heap.size w w' := by
  have hcv := bytes_of b n cap xs w hl hc
  have hsz : (strOfNums xs).size = n := by rw [size_strOf, hl]
  have HS : Hid ((strOfNums xs).size = n) := hsz
  clear hsz hl
  go_enter Ybaf.func10, Ybaf.ntmps10
  go_wp2_with (go_at_call 12; refine (cut_small b n cap _ hs).mono ?_; rintro e w' ⟨rfl, rfl⟩)
  go_ret
  exact ⟨_, by rw [HS.out]; omega, rfl, Below.refl _ _⟩

set_option maxHeartbeats 800000 in
theorem plain_big (F : Interp) (b n cap : Nat) (xs : List Int) (w : World) (hF : F.told.answers w.tape) (hl : xs.length = n) (hc : Row w b n xs) (hn : n ≤ cap) (hm : cap ≤ 2000000) (hs : 256 < n) (hb : b < w.heap.size) :
    Calls Ybaf.prog 10 #[.slice (some ⟨b, 0, none⟩) n cap] w fun e w' => ∃ s : ByteArray, s.size ≤ 2000 ∧ e = .returned (.string s) ∧ Below w.heap.size w w' := by
  go_enter Ybaf.func10, Ybaf.ntmps10
  go_wp2_with (go_at_call 12; refine (cut_big b n cap xs _ hc hn hm hs).mono ?_; rintro e w' ⟨m, hm, rfl, rfl⟩)
  have hwm : (Lit.int .i64 (m : Int)).wf = true := wf_i64 _ (by omega) (by omega)
  have hwn : (Lit.int .i64 (n : Int)).wf = true := wf_i64 _ (by omega) (by omega)
  have hc0 := bytes_of b m cap (xs.take m) w (by rw [List.length_take]; omega) (row_take hc (by omega))
  have hcd := bytes_of b m cap (xs.take m) w.drew (by rw [List.length_take]; omega) (row_take (w := w.drew) hc (by omega))
  have hsz : (strOfNums (xs.take m)).size ≤ 256 := by rw [size_strOf, List.length_take]; omega
  go_region_with (go_at_call 13; refine (note_any F _ _ _ _ (by exact hF) (by decide) hwm hwn).mono ?_; rintro e w1 ⟨s, hs1, rfl, hb1⟩; have hc1 := bytes_of b m cap (xs.take m) w1 (by rw [List.length_take]; omega) (row_below (w := w.drew) (row_take (w := w.drew) hc (by omega)) hb1 hb))
  all_goals
    go_wp2
    go_ret
    refine ⟨_, ?_, rfl, ?_⟩
    · exact size3 _ _ _ hsz hs1
    · exact below_of_drew hb1

theorem plain_any (F : Interp) (b n cap : Nat) (xs : List Int) (w : World) (hF : F.told.answers w.tape) (hl : xs.length = n) (hc : Row w b n xs) (hn : n ≤ cap) (hm : cap ≤ 2000000) (hb : b < w.heap.size) :
    Calls Ybaf.prog 10 #[.slice (some ⟨b, 0, none⟩) n cap] w fun e w' => ∃ s : ByteArray, s.size ≤ 2000 ∧ e = .returned (.string s) ∧ Below w.heap.size w w' := by
  by_cases hs : n ≤ 256
  · exact plain_small b n cap xs w hl hc hs
  · exact plain_big F b n cap xs w hF hl hc hn hm (by omega) hb
end Go.Proofs.YbulkexnnaFmt
