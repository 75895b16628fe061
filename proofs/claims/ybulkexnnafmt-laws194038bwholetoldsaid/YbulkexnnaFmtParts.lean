/-
  Plain lemmas for the law's walk; bytes.Equal (5) at two equal rows; charRef (4) over the whole reference.
-/
import Derived.Test.YbulkexnnaFmtRef
import Derived.Laws.CopyOwn
namespace Go.Proofs.YbulkexnnaFmt
open Go.RowKit Go.Kit Go.Extern.Stop Go.Stop Go.Extern

theorem Ybaf.info5 : (Ybaf.prog.info? 5).map (fun i => (i.zero, i.size, i.bytes)) = some (some (.int .u8 0), 1, 1) := by kernel_rfl
theorem Ybaf.size5 : (Ybaf.prog.info? 5).map (·.size) = some 1 := by kernel_rfl

/-- The law's table, at place j. -/
def tb (j : Nat) : Int := ([48, 49, 50, 51, 52, 53, 54, 55, 56, 57, 97, 98, 99, 100, 101, 102, 65, 66, 67, 68, 69, 70, 120, 88, 59, 103] : List Int).getD j 0
theorem tb_at (j : Nat) (h : j < 26) : (((ByteArray.mk #[48, 49, 50, 51, 52, 53, 54, 55, 56, 57, 97, 98, 99, 100, 101, 102, 65, 66, 67, 68, 69, 70, 120, 88, 59, 103])[j]'h).toNat : Int) = tb j := by
  revert j; decide
theorem tb_range (j : Nat) : 0 ≤ tb j ∧ tb j ≤ 255 := by
  by_cases h : j < 26
  · have : ∀ j, j < 26 → 0 ≤ tb j ∧ tb j ≤ 255 := by decide
    exact this j h
  · unfold tb; simp only [List.getD]; rw [List.getElem?_eq_none (by simp; omega)]; decide

/-- What the reference begins with. -/
def preOf (lead : Int) (hex : Bool) : List Int := if hex then [lead, 120] else [lead]
/-- What one byte of the body becomes. -/
def mp (mapped : Bool) (c : Int) : Int := if mapped then tb (c % 26).toNat else c
/-- The reference behind k bytes of the body. -/
def refL (lead : Int) (hex mapped : Bool) (zs : List Int) (k : Nat) : List Int := preOf lead hex ++ (zs.take k).map (mp mapped)

theorem preOf_len (lead : Int) (hex : Bool) : 1 ≤ (preOf lead hex).length ∧ (preOf lead hex).length ≤ 2 := by cases hex <;> simp [preOf]
theorem refL_len (lead : Int) (hex mapped : Bool) (zs : List Int) (k : Nat) (hk : k ≤ zs.length) : (refL lead hex mapped zs k).length = (preOf lead hex).length + k := by
  simp [refL]; omega
theorem refL_succ (lead : Int) (hex mapped : Bool) (zs : List Int) (k : Nat) (hk : k < zs.length) (c : Int) (hc : zs.getD k 0 = c) : refL lead hex mapped zs (k + 1) = refL lead hex mapped zs k ++ [mp mapped c] := by
  unfold refL
  have : zs.take (k + 1) = zs.take k ++ [c] := by
    rw [List.take_succ_eq_append_getElem hk]
    simp [List.getD, List.getElem?_eq_getElem hk] at hc
    rw [hc]
  rw [this, List.map_append, List.append_assoc]; rfl
theorem refL_zero (lead : Int) (hex mapped : Bool) (zs : List Int) : refL lead hex mapped zs 0 = preOf lead hex := by simp [refL]

theorem getD_range (xs : List Int) (h : ∀ x ∈ xs, 0 ≤ x ∧ x ≤ 255) (i : Nat) : 0 ≤ xs.getD i 0 ∧ xs.getD i 0 ≤ 255 := by
  simp only [List.getD]
  cases e : xs[i]? with
  | none => simp
  | some v => exact h v (List.mem_of_getElem? e)
theorem refL_range (lead : Int) (hex mapped : Bool) (zs : List Int) (k : Nat) (h0 : 0 ≤ lead ∧ lead ≤ 255) (hz : ∀ x ∈ zs, 0 ≤ x ∧ x ≤ 255) (i : Nat) : 0 ≤ (refL lead hex mapped zs k).getD i 0 ∧ (refL lead hex mapped zs k).getD i 0 ≤ 255 := by
  refine getD_range _ ?_ i
  intro x hx
  unfold refL at hx
  rcases List.mem_append.1 hx with h | h
  · cases hex
    · simp [preOf] at h; omega
    · simp [preOf] at h; omega
  · obtain ⟨y, hy, rfl⟩ := List.mem_map.1 h
    unfold mp
    split
    · exact tb_range _
    · exact hz y (List.mem_of_mem_take hy)

/-- What the law expects of the whole reference. -/
def specOf (xs : List Int) : Option Int := if 1 < xs.length ∧ xs.getD 1 0 = 120 then answer 16 (xs.drop 2) else answer 10 (xs.drop 1)

/-- The two results fit what is expected. -/
def Fits (o : Option Int) (r : Int) (m : ByteArray) : Prop := (∀ v, o = some v → r = v ∧ m = ⟨#[]⟩) ∧ (o = none → r = 0 ∧ 0 < m.size)

theorem ends_fits {o : Option Int} {e : Ending} (h : Ends o e) : ∃ (r : Int) (m : ByteArray), e = .returned (.tuple #[.int .i32 r, .string m]) ∧ Hid (Fits o r m) := by
  rcases h with ⟨v, ho, rfl⟩ | ⟨ho, m, hm, rfl⟩
  · exact ⟨v, ⟨#[]⟩, rfl, ⟨(fun x hx => by rw [ho] at hx; simp at hx; exact ⟨hx, rfl⟩), (fun hx => by rw [ho] at hx; cases hx)⟩⟩
  · exact ⟨0, m, rfl, ⟨(fun x hx => by rw [ho] at hx; cases hx), fun _ => ⟨rfl, hm⟩⟩⟩

theorem charRef_any (F : Interp) (b n cap : Nat) (xs : List Int) (w : World) (hF : F.told.answers w.tape) (hl : xs.length = n) (hc : Row w b n xs) (h1 : 1 ≤ n) (h2 : 2 ≤ cap) (hn : n ≤ cap) (hm : cap ≤ 2000000) (hb : b < w.heap.size)
    (hr : ∀ i, 0 ≤ xs.getD i 0 ∧ xs.getD i 0 ≤ 255) :
    Calls Ybaf.prog 4 #[.slice (some ⟨b, 0, none⟩) n cap] w fun e w' => ∃ (r : Int) (m : ByteArray), e = .returned (.tuple #[.int .i32 r, .string m]) ∧ Hid (Fits (specOf xs) r m) ∧ Below w.heap.size w w' := by
  have key : Calls Ybaf.prog 4 #[.slice (some ⟨b, 0, none⟩) n cap] w fun e w' => Ends (specOf xs) e ∧ Below w.heap.size w w' := by
    unfold specOf
    by_cases e1 : n = 1
    · subst e1
      rw [if_neg (by omega)]
      exact charRef_one F b cap xs w hF hl hc h2 hm hb
    · by_cases hx : xs.getD 1 0 = 120
      · rw [if_pos ⟨by omega, hx⟩]
        by_cases e2 : n = 2
        · subst e2
          exact charRef_two F b cap xs w hF hl hc h2 hm hb hx
        · obtain ⟨d, rfl⟩ : ∃ d, n = d + 2 := ⟨n - 2, by omega⟩
          exact charRef_hex F b d cap xs w hF hl hc (by omega) hn hm hb hr hx
      · rw [if_neg (fun h => hx h.2)]
        obtain ⟨d, rfl⟩ : ∃ d, n = d + 1 := ⟨n - 1, by omega⟩
        exact charRef_dec F b d cap xs w hF hl hc (by omega) hn hm hb hr hx
  refine key.mono ?_
  rintro e w' ⟨he, hb'⟩
  obtain ⟨r, m, h1, h2⟩ := ends_fits he
  exact ⟨r, m, h1, h2, hb'⟩

set_option maxHeartbeats 400000 in
theorem equal_same (b1 b2 n c1 c2 : Nat) (xs : List Int) (w : World) (hl : xs.length = n) (h1 : Row w b1 n xs) (h2 : Row w b2 n xs) :
    Calls Ybaf.prog 5 #[.slice (some ⟨b1, 0, none⟩) n c1, .slice (some ⟨b2, 0, none⟩) n c2] w fun e w' => e = .returned (.bool true) ∧ w = w' := by
  have q1 := bytes_of b1 n c1 xs w hl h1
  have q2 := bytes_of b2 n c2 xs w hl h2
  clear hl h1 h2
  go_enter Ybaf.func5, Ybaf.ntmps5
  go_wp2
  go_ret
  exact ⟨rfl, rfl⟩

theorem row_of_owns {w : World} {base g n cap : Nat} {xs : List Int} (h : w.ownsRow base 5 1 (.slice (some ⟨g, 0, none⟩) n cap) n (xs.map (Value.int .u8))) : Row w g n xs := by
  intro i hi
  have hl : xs.length = n := by have := h.1; simpa using this
  rw [h.cellAt i (by omega), List.getElem?_map, List.getElem?_eq_getElem (by omega)]
  simp [List.getD, List.getElem?_eq_getElem (show i < xs.length by omega)]
theorem row_of_block {w : World} {g n : Nat} {xs : List Int} (hl : xs.length = n) (h : w.heap[g]? = some (.cells (xs.map (Value.int .u8)).toArray 5 (0, 0))) : Row w g n xs := by
  intro i hi
  simp [World.cell?, h, List.getD, List.getElem?_eq_getElem (show i < xs.length by omega)]
theorem owns_lt {w : World} {base g n cap : Nat} {xs : List Value} (h : w.ownsRow base 5 1 (.slice (some ⟨g, 0, none⟩) n cap) n xs) : g < w.heap.size := (h.lt g rfl).2
theorem below_heap {B : Nat} {w w' : World} (h : Below B w w') {g : Nat} (hg : g < B) : w'.heap[g]? = w.heap[g]? := h.block g hg
theorem row_kept {w w' : World} {B b n : Nat} {xs : List Int} (h : Row w b n xs) (hb : Below B w w') (hlt : b < B) : Row w' b n xs :=
  fun i hi => (hb.cell (p := ⟨b, i, none⟩) hlt).trans (h i hi)

/-- A row that is owned up to its capacity, as a block. -/
theorem block_of_owns {w : World} {base g n : Nat} {L : List Value} (h : w.ownsRow base 5 1 (.slice (some ⟨g, 0, none⟩) n n) n L) : w.heap[g]? = some (.cells L.toArray 5 (0, 0)) := by
  obtain ⟨hl, h | ⟨g', cap, cur, hv, _, hh, _, _, hs, ht⟩⟩ := h
  · cases h.1
  · simp only [Value.slice.injEq, Option.some.injEq, Addr.mk.injEq] at hv
    obtain ⟨⟨rfl, _⟩, _, rfl⟩ := hv
    rw [hh]
    have e : cur.toList = L := by rw [← ht, List.take_of_length_le (by rw [Array.length_toList]; omega)]
    rw [← e]
theorem splice_all {α : Type} (L cs : List α) (h : cs.length = L.length) : splice L 0 cs = cs := by
  simp [splice, h]
theorem ints_one (xs : List Int) : ∀ v ∈ xs.map (Value.int .u8), v.oneCell' = true := by
  intro v hv; obtain ⟨x, _, rfl⟩ := List.mem_map.1 hv; rfl
theorem row_cells {w : World} {b n : Nat} {xs : List Int} (hl : xs.length = n) (h : Row w b n xs) : ∀ j v, (xs.map (Value.int .u8))[j]? = some v → w.cell? ((⟨b, 0, none⟩ : Addr).add j) = some v := by
  intro j v hj
  rw [List.getElem?_map] at hj
  have hlt : j < xs.length := by
    rcases Nat.lt_or_ge j xs.length with h | h
    · exact h
    · rw [List.getElem?_eq_none h] at hj; simp at hj
  rw [List.getElem?_eq_getElem hlt] at hj
  simp at hj
  have := h j (by omega)
  simp [List.getD, List.getElem?_eq_getElem hlt, hj] at this
  have e : (⟨b, 0, none⟩ : Addr).add j = ⟨b, j, none⟩ := by
    unfold Addr.add
    split
    · rename_i h0; subst h0; rfl
    · simp
  rw [e]; exact this

/-- The law's own digit and charRef's. -/
theorem zd_good {c base : Int} (h : dv c < base) : zd c base = dv c := by unfold zd; rw [if_pos h]
theorem zd_bad {c base : Int} (h : ¬ dv c < base) : zd c base = -1 := by unfold zd; rw [if_neg h]
theorem fits_none {o : Option Int} {r : Int} {m : ByteArray} (h : Fits o r m) (ho : o = none) : (r == 0) = true ∧ m.toList.isEmpty = false := by
  obtain ⟨h1, h2⟩ := h.2 ho
  refine ⟨by simpa using h1, ?_⟩
  rw [ByteArray.toList_eq]
  rw [List.isEmpty_eq_false_iff]
  intro e
  have : m.data.toList.length = 0 := by rw [e]; rfl
  rw [Array.length_toList] at this
  have h3 : m.size = m.data.size := rfl
  omega
theorem fits_some {o : Option Int} {r v : Int} {m : ByteArray} (h : Fits o r m) (ho : o = some v) : (r == v) = true ∧ m = ⟨#[]⟩ := by
  obtain ⟨h1, h2⟩ := h.1 v ho
  exact ⟨by simpa using h1, h2⟩
theorem spec_one {xs : List Int} (h : xs.length = 1) : specOf xs = none := by
  unfold specOf; rw [if_neg (by omega), List.drop_eq_nil_of_le (by omega)]; rfl
theorem spec_two {xs : List Int} (h : xs.length = 2) (hx : xs.getD 1 0 = 120) : specOf xs = none := by
  unfold specOf; rw [if_pos ⟨by omega, hx⟩, List.drop_eq_nil_of_le (by omega)]; rfl
theorem spec_dec {xs : List Int} (hx : xs.getD 1 0 ≠ 120) : specOf xs = answer 10 (xs.drop 1) := by
  unfold specOf; rw [if_neg (fun h => hx h.2)]
theorem spec_hex {xs : List Int} (h : 1 < xs.length) (hx : xs.getD 1 0 = 120) : specOf xs = answer 16 (xs.drop 2) := by
  unfold specOf; rw [if_pos ⟨h, hx⟩]
end Go.Proofs.YbulkexnnaFmt
