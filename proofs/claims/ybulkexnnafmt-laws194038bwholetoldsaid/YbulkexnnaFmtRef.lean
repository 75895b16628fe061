/-
  The contract of charRef (4).
-/
import Derived.Test.YbulkexnnaFmtPlain
namespace Go.Proofs.YbulkexnnaFmt
open Go.RowKit Go.Kit Go.Extern.Stop Go.Stop Go.Extern
attribute [local go_sem] Ybaf.call9 Ybaf.guard Ybaf.fmt0 Ybaf.fmt0r Ybaf.fmt1 Ybaf.fmt1r Ybaf.fmt2 Ybaf.fmt2r Ybaf.fmt3 Ybaf.fmt3r Ybaf.op3_100 Ybaf.op9_115

/-- The value of a run of digits, none where one is no digit of the base or the value passes the last code point. -/
def scan (base : Int) : List Int → Int → Option Int
  | [], v => some v
  | c :: cs, v => if dv c < base then (if 1114111 < v * base + dv c then none else scan base cs (v * base + dv c)) else none

/-- What a character reference's digits stand for. -/
def answer (base : Int) (ds : List Int) : Option Int :=
  if ds = [] then none else (scan base ds 0).bind fun v => if chB v then some v else none

/-- The reading of one message: its format, then the operand. -/
def msgReading (f : List UInt8) (u : List UInt8) : List (List UInt8) := [f, Ybaf.shape9, FmtStop.pack u]

theorem msg0 (u : List UInt8) (hu : u.length < 2 ^ 64) : ∃ p q : List UInt8, FmtText.text "fmt.Sprintf" (msgReading Ybaf.fb0 u) = some (p ++ u ++ q) ∧ 0 < p.length ∧ p.length ≤ 100 ∧ q.length ≤ 100 := by
  have h := FmtText.operand_str_at (sh := Ybaf.shape9) rfl rfl u hu
  refine ⟨[99, 104, 97, 114, 97, 99, 116, 101, 114, 32, 114, 101, 102, 101, 114, 101, 110, 99, 101, 32, 38], [59, 32, 105, 115, 32, 111, 117, 116, 32, 111, 102, 32, 114, 97, 110, 103, 101], ?_, by decide, by decide, by decide⟩
  rw [msgReading, Ybaf.fb0, FmtText.text_sprintf_glued Ybaf.fmt0t (FmtText.operands_cons h FmtText.operands_nil)]
  simp [FmtText.render, FmtText.printArg_s_str]
theorem msg1 (u : List UInt8) (hu : u.length < 2 ^ 64) : ∃ p q : List UInt8, FmtText.text "fmt.Sprintf" (msgReading Ybaf.fb1 u) = some (p ++ u ++ q) ∧ 0 < p.length ∧ p.length ≤ 100 ∧ q.length ≤ 100 := by
  have h := FmtText.operand_str_at (sh := Ybaf.shape9) rfl rfl u hu
  refine ⟨[109, 97, 108, 102, 111, 114, 109, 101, 100, 32, 99, 104, 97, 114, 97, 99, 116, 101, 114, 32, 114, 101, 102, 101, 114, 101, 110, 99, 101, 32, 38], [59], ?_, by decide, by decide, by decide⟩
  rw [msgReading, Ybaf.fb1, FmtText.text_sprintf_glued Ybaf.fmt1t (FmtText.operands_cons h FmtText.operands_nil)]
  simp [FmtText.render, FmtText.printArg_s_str]
theorem msg2 (u : List UInt8) (hu : u.length < 2 ^ 64) : ∃ p q : List UInt8, FmtText.text "fmt.Sprintf" (msgReading Ybaf.fb2 u) = some (p ++ u ++ q) ∧ 0 < p.length ∧ p.length ≤ 100 ∧ q.length ≤ 100 := by
  have h := FmtText.operand_str_at (sh := Ybaf.shape9) rfl rfl u hu
  refine ⟨[99, 104, 97, 114, 97, 99, 116, 101, 114, 32, 114, 101, 102, 101, 114, 101, 110, 99, 101, 32, 38], [59, 32, 110, 97, 109, 101, 115, 32, 110, 111, 32, 88, 77, 76, 32, 99, 104, 97, 114, 97, 99, 116, 101, 114], ?_, by decide, by decide, by decide⟩
  rw [msgReading, Ybaf.fb2, FmtText.text_sprintf_glued Ybaf.fmt2t (FmtText.operands_cons h FmtText.operands_nil)]
  simp [FmtText.render, FmtText.printArg_s_str]

/-- Such a message is not empty. -/
theorem msg_some (F : Interp) {f : List UInt8} (s : ByteArray) (hs : s.size ≤ 2000)
    (h : ∃ p q : List UInt8, FmtText.text "fmt.Sprintf" (msgReading f s.data.toList) = some (p ++ s.data.toList ++ q) ∧ 0 < p.length ∧ p.length ≤ 100 ∧ q.length ≤ 100) :
    0 < (FmtStop.textOf (F.told "fmt.Sprintf" (msgReading f s.data.toList) 0)).size := by
  obtain ⟨p, q, ht, h0, h1, h2⟩ := h
  have hl : s.data.toList.length ≤ 2000 := by rw [Array.length_toList]; exact hs
  have hs' := told_string F ht (by simp only [List.length_append]; omega)
  have e : 0 < (FmtStop.textOf (F.told "fmt.Sprintf" (msgReading f s.data.toList) 0)).data.toList.length := by
    rw [textOf_list, hs']; simp only [List.length_append]; omega
  rw [Array.length_toList] at e
  exact e

theorem msg_of (F : Interp) (s : ByteArray) (hs : s.size ≤ 2000) :
    (0 < (FmtStop.textOf (F.told "fmt.Sprintf" (msgReading Ybaf.fb0 s.data.toList) 0)).size) ∧ (0 < (FmtStop.textOf (F.told "fmt.Sprintf" (msgReading Ybaf.fb1 s.data.toList) 0)).size) ∧
      (0 < (FmtStop.textOf (F.told "fmt.Sprintf" (msgReading Ybaf.fb2 s.data.toList) 0)).size) := by
  have hl : s.data.toList.length < 2 ^ 64 := by
    have : s.data.toList.length ≤ 2000 := by rw [Array.length_toList]; exact hs
    omega
  exact ⟨msg_some F s hs (msg0 _ hl), msg_some F s hs (msg1 _ hl), msg_some F s hs (msg2 _ hl)⟩

/-- How the call ends: the value and no message, or nought and some message. -/
def Ends (o : Option Int) (e : Ending) : Prop :=
  (∃ v, o = some v ∧ e = .returned (.tuple #[.int .i32 v, .string ⟨#[]⟩])) ∨ (o = none ∧ ∃ m : ByteArray, 0 < m.size ∧ e = .returned (.tuple #[.int .i32 0, .string m]))

theorem getD_drop (xs : List Int) (o k : Nat) : (xs.drop o).getD k 0 = xs.getD (o + k) 0 := by simp [List.getD]

theorem drop_cons (ds : List Int) (k : Nat) (c : Int) (hk : k < ds.length) (hg : ds.getD k 0 = c) : ds.drop k = c :: ds.drop (k + 1) := by
  rw [List.drop_eq_getElem_cons hk]; simp [List.getD, List.getElem?_eq_getElem hk] at hg; rw [hg]
theorem scan_step (base : Int) (ds : List Int) (k : Nat) (v c : Int) (hk : k < ds.length) (hs : scan base ds 0 = scan base (ds.drop k) v) (hg : ds.getD k 0 = c) (hd : dv c < base) (ho : ¬ 1114111 < v * base + dv c) :
    scan base ds 0 = scan base (ds.drop (k + 1)) (v * base + dv c) := by
  rw [hs, drop_cons ds k c hk hg, scan, if_pos hd, if_neg ho]
theorem ne_nil (ds : List Int) (k : Nat) (hk : k < ds.length) : ds ≠ [] := by intro h; subst h; simp at hk
theorem ans_over (base : Int) (ds : List Int) (k : Nat) (v c : Int) (hk : k < ds.length) (hs : scan base ds 0 = scan base (ds.drop k) v) (hg : ds.getD k 0 = c) (hd : dv c < base) (ho : 1114111 < v * base + dv c) :
    answer base ds = none := by
  unfold answer
  rw [if_neg (ne_nil ds k hk), hs, drop_cons ds k c hk hg, scan, if_pos hd, if_pos ho]; rfl
theorem ans_bad (base : Int) (ds : List Int) (k : Nat) (v c : Int) (hk : k < ds.length) (hs : scan base ds 0 = scan base (ds.drop k) v) (hg : ds.getD k 0 = c) (hd : ¬ dv c < base) :
    answer base ds = none := by
  unfold answer
  rw [if_neg (ne_nil ds k hk), hs, drop_cons ds k c hk hg, scan, if_neg hd]; rfl
theorem ans_end (base : Int) (ds : List Int) (k : Nat) (v : Int) (h0 : 0 < ds.length) (hk : ds.length ≤ k) (hs : scan base ds 0 = scan base (ds.drop k) v) :
    answer base ds = if chB v then some v else none := by
  unfold answer
  rw [if_neg (ne_nil ds 0 h0), hs, List.drop_eq_nil_of_le hk, scan]; rfl
theorem ends_bad {o : Option Int} {m : ByteArray} (h : o = none) (hm : 0 < m.size) : Ends o (.returned (.tuple #[.int .i32 0, .string m])) := Or.inr ⟨h, m, hm, rfl⟩
theorem ends_good {o : Option Int} {v : Int} (h : o = some v) : Ends o (.returned (.tuple #[.int .i32 v, .string ⟨#[]⟩])) := Or.inl ⟨v, h, rfl⟩

set_option maxHeartbeats 1600000 in
theorem charRef_dec (F : Interp) (b d cap : Nat) (xs : List Int) (w : World) (hF : F.told.answers w.tape) (hl : xs.length = d + 1) (hc : Row w b (d + 1) xs) (h1 : 0 < d) (hn : d + 1 ≤ cap) (hm : cap ≤ 2000000) (hb : b < w.heap.size)
    (hr : ∀ i, 0 ≤ xs.getD i 0 ∧ xs.getD i 0 ≤ 255) (hx : xs.getD 1 0 ≠ 120) :
    Calls Ybaf.prog 4 #[.slice (some ⟨b, 0, none⟩) (d + 1) cap] w fun e w' => Ends (answer 10 (xs.drop 1)) e ∧ Below w.heap.size w w' := by
  have hF' := answers_open hF
  have hc1 := hc 1 (by omega)
  have hx' : ∃ x1 : Int, w.cell? ⟨b, 1, none⟩ = some (.int .u8 x1) ∧ (x1 == 120) = false := ⟨_, hc1, by simpa using hx⟩
  clear hc1 hx
  obtain ⟨x1, hc1, hx'⟩ := hx'
  have hds : (xs.drop 1).length = d := by rw [List.length_drop]; omega
  have HD : Hid ((xs.drop 1).length = d) := hds
  have hcs : ∀ k, k < d → ∃ c : Int, w.cell? ⟨b, 1 + k, none⟩ = some (.int .u8 c) ∧ 0 ≤ c ∧ c ≤ 255 ∧ Hid ((xs.drop 1).getD k 0 = c) := fun k hk =>
    ⟨_, hc (1 + k) (by omega), (hr _).1, (hr _).2, by show _ = _; rw [getD_drop]⟩
  have HC : Hid (∀ k, k < d → ∃ c : Int, w.cell? ⟨b, 1 + k, none⟩ = some (.int .u8 c) ∧ 0 ≤ c ∧ c ≤ 255 ∧ Hid ((xs.drop 1).getD k 0 = c)) := hcs
  have HL : Hid (xs.length = d + 1) := hl
  clear hcs hds hr hl
  have h1c : 1 < cap := by omega
  have h2c : 1 < cap := by omega
  generalize hdd : xs.drop 1 = ds at HD HC ⊢
  clear hdd
  go_enter Ybaf.func4, Ybaf.ntmps4
  go_wp2
  go_loop [6, 7, 29] (fun r ok i => ∃ (k : Nat) (v : Int), k ≤ d ∧ i = .int .i64 k ∧ r = .int .i32 v ∧ ok = .bool true ∧ 0 ≤ v ∧ v ≤ 1114111 ∧ Hid (scan 10 ds 0 = scan 10 (ds.drop k) v)) (fun _ _ i => d - (intOf i).toNat)
  case atStart => exact ⟨0, 0, Nat.zero_le _, rfl, rfl, rfl, by omega, by omega, rfl⟩
  case round =>
    obtain ⟨k, v, hk, rfl, rfl, rfl, hv0, hv1, HS⟩ := hrel
    by_cases hlt : k < d
    · obtain ⟨c, hcc, hc0, hc9, HG⟩ := HC.out k hlt
      have hd9 := dv_le c
      have hlen := HD.out
      by_cases hdv : dv c < 10
      · by_cases hov : 1114111 < v * 10 + dv c
        · have HE := ans_over 10 ds k v c (by omega) HS.out HG.out hdv hov
          have HE' : Hid (answer 10 ds = none) := HE
          clear HE hlen
          go_wp2_with (first | (go_at_call 8; refine (digitValue_any _ _ hc0 hc9).mono ?_; rintro e w' ⟨rfl, rfl⟩) | (go_at_call 10; refine (plain_any F b (d + 1) cap xs _ hF HL.out hc hn hm hb).mono ?_; rintro e w1 ⟨s, hs1, rfl, hb1⟩; have hF1 := answers_open (show F.told.answers w1.tape by rw [hb1.tape]; exact hF)))
          go_ret2
          exact ⟨ends_bad HE'.out (msg_of F s hs1).1, ((hb1.alloc hb1.size _).drew)⟩
        · have HE := scan_step 10 ds k v c (by omega) HS.out HG.out hdv hov
          have HE' : Hid (scan 10 ds 0 = scan 10 (ds.drop (k + 1)) (v * 10 + dv c)) := HE
          clear HE hlen
          go_wp2_with (go_at_call 8; refine (digitValue_any _ _ hc0 hc9).mono ?_; rintro e w' ⟨rfl, rfl⟩)
          go_round
          case rel => exact ⟨k + 1, v * 10 + dv c, by omega, by go_num, rfl, rfl, by omega, by omega, HE'⟩
          case measure => simp [intOf]; omega
      · have HE := ans_bad 10 ds k v c (by omega) HS.out HG.out hdv
        have HE' : Hid (answer 10 ds = none) := HE
        clear HE hlen
        go_wp2_with (first | (go_at_call 8; refine (digitValue_any _ _ hc0 hc9).mono ?_; rintro e w' ⟨rfl, rfl⟩) | (go_at_call 10; refine (plain_any F b (d + 1) cap xs _ hF HL.out hc hn hm hb).mono ?_; rintro e w1 ⟨s, hs1, rfl, hb1⟩; have hF1 := answers_open (show F.told.answers w1.tape by rw [hb1.tape]; exact hF)))
        go_ret2
        exact ⟨ends_bad HE'.out (msg_of F s hs1).2.1, ((hb1.alloc hb1.size _).drew)⟩
    · have HE : Hid (answer 10 ds = if chB v then some v else none) := ans_end 10 ds k v (by have := HD.out; omega) (by have := HD.out; omega) HS.out
      by_cases hch : chB v = true
      · have HT : Hid (chB v = true) := hch
        go_wp2_with (go_at_call 11; refine (isChar_any _ _).mono ?_; rintro e w' ⟨rfl, rfl⟩)
        go_ret2
        exact ⟨ends_good (by rw [HE.out, if_pos HT.out]), Below.refl _ _⟩
      · have HT : Hid (¬ chB v = true) := hch
        have hcf : chB v = false := by simpa using hch
        clear hch
        go_wp2_with (first | (go_at_call 11; refine (isChar_any _ _).mono ?_; rintro e w' ⟨rfl, rfl⟩) | (go_at_call 10; refine (plain_any F b (d + 1) cap xs _ hF HL.out hc hn hm hb).mono ?_; rintro e w1 ⟨s, hs1, rfl, hb1⟩; have hF1 := answers_open (show F.told.answers w1.tape by rw [hb1.tape]; exact hF)))
        go_ret2
        exact ⟨ends_bad (by rw [HE.out, if_neg HT.out]) (msg_of F s hs1).2.2, ((hb1.alloc hb1.size _).drew)⟩

set_option maxHeartbeats 1600000 in
theorem charRef_hex (F : Interp) (b d cap : Nat) (xs : List Int) (w : World) (hF : F.told.answers w.tape) (hl : xs.length = d + 2) (hc : Row w b (d + 2) xs) (h1 : 0 < d) (hn : d + 2 ≤ cap) (hm : cap ≤ 2000000) (hb : b < w.heap.size)
    (hr : ∀ i, 0 ≤ xs.getD i 0 ∧ xs.getD i 0 ≤ 255) (hx : xs.getD 1 0 = 120) :
    Calls Ybaf.prog 4 #[.slice (some ⟨b, 0, none⟩) (d + 2) cap] w fun e w' => Ends (answer 16 (xs.drop 2)) e ∧ Below w.heap.size w w' := by
  have hF' := answers_open hF
  have hc1 := hc 1 (by omega)
  rw [hx] at hc1
  clear hx
  have hds : (xs.drop 2).length = d := by rw [List.length_drop]; omega
  have HD : Hid ((xs.drop 2).length = d) := hds
  have hcs : ∀ k, k < d → ∃ c : Int, w.cell? ⟨b, 2 + k, none⟩ = some (.int .u8 c) ∧ 0 ≤ c ∧ c ≤ 255 ∧ Hid ((xs.drop 2).getD k 0 = c) := fun k hk =>
    ⟨_, hc (2 + k) (by omega), (hr _).1, (hr _).2, by show _ = _; rw [getD_drop]⟩
  have HC : Hid (∀ k, k < d → ∃ c : Int, w.cell? ⟨b, 2 + k, none⟩ = some (.int .u8 c) ∧ 0 ≤ c ∧ c ≤ 255 ∧ Hid ((xs.drop 2).getD k 0 = c)) := hcs
  have HL : Hid (xs.length = d + 2) := hl
  clear hcs hds hr hl
  have h1c : 1 < cap := by omega
  have h2c : 2 < cap := by omega
  generalize hdd : xs.drop 2 = ds at HD HC ⊢
  clear hdd
  go_enter Ybaf.func4, Ybaf.ntmps4
  go_wp2
  go_loop [6, 7, 29] (fun r ok i => ∃ (k : Nat) (v : Int), k ≤ d ∧ i = .int .i64 k ∧ r = .int .i32 v ∧ ok = .bool true ∧ 0 ≤ v ∧ v ≤ 1114111 ∧ Hid (scan 16 ds 0 = scan 16 (ds.drop k) v)) (fun _ _ i => d - (intOf i).toNat)
  case atStart => exact ⟨0, 0, Nat.zero_le _, rfl, rfl, rfl, by omega, by omega, rfl⟩
  case round =>
    obtain ⟨k, v, hk, rfl, rfl, rfl, hv0, hv1, HS⟩ := hrel
    by_cases hlt : k < d
    · obtain ⟨c, hcc, hc0, hc9, HG⟩ := HC.out k hlt
      have hd9 := dv_le c
      have hlen := HD.out
      by_cases hdv : dv c < 16
      · by_cases hov : 1114111 < v * 16 + dv c
        · have HE := ans_over 16 ds k v c (by omega) HS.out HG.out hdv hov
          have HE' : Hid (answer 16 ds = none) := HE
          clear HE hlen
          go_wp2_with (first | (go_at_call 8; refine (digitValue_any _ _ hc0 hc9).mono ?_; rintro e w' ⟨rfl, rfl⟩) | (go_at_call 10; refine (plain_any F b (d + 2) cap xs _ hF HL.out hc hn hm hb).mono ?_; rintro e w1 ⟨s, hs1, rfl, hb1⟩; have hF1 := answers_open (show F.told.answers w1.tape by rw [hb1.tape]; exact hF)))
          go_ret2
          exact ⟨ends_bad HE'.out (msg_of F s hs1).1, ((hb1.alloc hb1.size _).drew)⟩
        · have HE := scan_step 16 ds k v c (by omega) HS.out HG.out hdv hov
          have HE' : Hid (scan 16 ds 0 = scan 16 (ds.drop (k + 1)) (v * 16 + dv c)) := HE
          clear HE hlen
          go_wp2_with (go_at_call 8; refine (digitValue_any _ _ hc0 hc9).mono ?_; rintro e w' ⟨rfl, rfl⟩)
          go_round
          case rel => exact ⟨k + 1, v * 16 + dv c, by omega, by go_num, rfl, rfl, by omega, by omega, HE'⟩
          case measure => simp [intOf]; omega
      · have HE := ans_bad 16 ds k v c (by omega) HS.out HG.out hdv
        have HE' : Hid (answer 16 ds = none) := HE
        clear HE hlen
        go_wp2_with (first | (go_at_call 8; refine (digitValue_any _ _ hc0 hc9).mono ?_; rintro e w' ⟨rfl, rfl⟩) | (go_at_call 10; refine (plain_any F b (d + 2) cap xs _ hF HL.out hc hn hm hb).mono ?_; rintro e w1 ⟨s, hs1, rfl, hb1⟩; have hF1 := answers_open (show F.told.answers w1.tape by rw [hb1.tape]; exact hF)))
        go_ret2
        exact ⟨ends_bad HE'.out (msg_of F s hs1).2.1, ((hb1.alloc hb1.size _).drew)⟩
    · have HE : Hid (answer 16 ds = if chB v then some v else none) := ans_end 16 ds k v (by have := HD.out; omega) (by have := HD.out; omega) HS.out
      by_cases hch : chB v = true
      · have HT : Hid (chB v = true) := hch
        go_wp2_with (go_at_call 11; refine (isChar_any _ _).mono ?_; rintro e w' ⟨rfl, rfl⟩)
        go_ret2
        exact ⟨ends_good (by rw [HE.out, if_pos HT.out]), Below.refl _ _⟩
      · have HT : Hid (¬ chB v = true) := hch
        have hcf : chB v = false := by simpa using hch
        clear hch
        go_wp2_with (first | (go_at_call 11; refine (isChar_any _ _).mono ?_; rintro e w' ⟨rfl, rfl⟩) | (go_at_call 10; refine (plain_any F b (d + 2) cap xs _ hF HL.out hc hn hm hb).mono ?_; rintro e w1 ⟨s, hs1, rfl, hb1⟩; have hF1 := answers_open (show F.told.answers w1.tape by rw [hb1.tape]; exact hF)))
        go_ret2
        exact ⟨ends_bad (by rw [HE.out, if_neg HT.out]) (msg_of F s hs1).2.2, ((hb1.alloc hb1.size _).drew)⟩

set_option maxHeartbeats 800000 in
theorem charRef_one (F : Interp) (b cap : Nat) (xs : List Int) (w : World) (hF : F.told.answers w.tape) (hl : xs.length = 1) (hc : Row w b 1 xs) (hn : 2 ≤ cap) (hm : cap ≤ 2000000) (hb : b < w.heap.size) :
    Calls Ybaf.prog 4 #[.slice (some ⟨b, 0, none⟩) 1 cap] w fun e w' => Ends (answer 10 (xs.drop 1)) e ∧ Below w.heap.size w w' := by
  have hF' := answers_open hF
  have hcap : 1 < cap := by omega
  have HE : Hid (answer 10 (xs.drop 1) = none) := by
    show _ = _
    rw [List.drop_eq_nil_of_le (by omega)]; rfl
  have HL : Hid (xs.length = 1) := hl
  clear hl
  go_enter Ybaf.func4, Ybaf.ntmps4
  go_wp2
  all_goals
    refine wp_loop_rounds 1 ?_
    rw [rounds_succ]
    go_wp2_with (go_at_call 10; refine (plain_any F b 1 cap xs _ hF HL.out hc (by omega) hm hb).mono ?_; rintro e w1 ⟨s, hs1, rfl, hb1⟩; have hF1 := answers_open (show F.told.answers w1.tape by rw [hb1.tape]; exact hF))
    go_ret2
    exact ⟨ends_bad HE.out (msg_of F s hs1).2.1, ((hb1.alloc hb1.size _).drew)⟩

set_option maxHeartbeats 800000 in
theorem charRef_two (F : Interp) (b cap : Nat) (xs : List Int) (w : World) (hF : F.told.answers w.tape) (hl : xs.length = 2) (hc : Row w b 2 xs) (hn : 2 ≤ cap) (hm : cap ≤ 2000000) (hb : b < w.heap.size) (hx : xs.getD 1 0 = 120) :
    Calls Ybaf.prog 4 #[.slice (some ⟨b, 0, none⟩) 2 cap] w fun e w' => Ends (answer 16 (xs.drop 2)) e ∧ Below w.heap.size w w' := by
  have hF' := answers_open hF
  have hc1 := hc 1 (by omega)
  rw [hx] at hc1
  clear hx
  have hcap : 1 < cap := by omega
  have HE : Hid (answer 16 (xs.drop 2) = none) := by
    show _ = _
    rw [List.drop_eq_nil_of_le (by omega)]; rfl
  have HL : Hid (xs.length = 2) := hl
  clear hl
  rcases (show cap = 2 ∨ 2 < cap by omega) with hcc | hcc
  all_goals try subst hcc
  all_goals
    go_enter Ybaf.func4, Ybaf.ntmps4
    go_wp2
    refine wp_loop_rounds 1 ?_
    rw [rounds_succ]
    go_wp2_with (go_at_call 10; refine (plain_any F b 2 _ xs _ hF HL.out hc (by omega) hm hb).mono ?_; rintro e w1 ⟨s, hs1, rfl, hb1⟩; have hF1 := answers_open (show F.told.answers w1.tape by rw [hb1.tape]; exact hF))
    go_ret2
    exact ⟨ends_bad HE.out (msg_of F s hs1).2.1, ((hb1.alloc hb1.size _).drew)⟩

end Go.Proofs.YbulkexnnaFmt
