/-
  Frames: what of memory is as it was, outside a set of blocks.
-/
import Derived.Test.YbulkexnkwDropP
namespace Go.Proofs.Ybulkexnkw
open Go.RowKit

structure Fr (w w' : World) (S : Nat → Prop) : Prop where
  os : w'.os = w.os
  tape : w'.tape = w.tape
  output : w'.output = w.output
  size : w.heap.size ≤ w'.heap.size
  cell : ∀ b o, b < w.heap.size → ¬ S b → w'.cell? ⟨b, o, none⟩ = w.cell? ⟨b, o, none⟩
  frozen : ∀ b o, b < w.heap.size → w'.frozen? ⟨b, o, none⟩ = w.frozen? ⟨b, o, none⟩
  block : ∀ b, b < w.heap.size → ¬ S b → w'.heap[b]? = w.heap[b]?
  obj : ∀ b, Obj w b → Obj w' b

theorem Fr.refl (w : World) (S : Nat → Prop) : Fr w w S := ⟨rfl, rfl, rfl, Nat.le_refl _, fun _ _ _ _ => rfl, fun _ _ _ => rfl, fun _ _ _ => rfl, fun _ h => h⟩
theorem Fr.trans {w w' w'' : World} {S T : Nat → Prop} (h : Fr w w' S) (k : Fr w' w'' T) : Fr w w'' (fun b => S b ∨ T b) :=
  ⟨k.os.trans h.os, k.tape.trans h.tape, k.output.trans h.output, Nat.le_trans h.size k.size,
   fun b o hb hn => (k.cell b o (Nat.lt_of_lt_of_le hb h.size) (fun e => hn (Or.inr e))).trans (h.cell b o hb (fun e => hn (Or.inl e))),
   fun b o hb => (k.frozen b o (Nat.lt_of_lt_of_le hb h.size)).trans (h.frozen b o hb),
   fun b hb hn => (k.block b (Nat.lt_of_lt_of_le hb h.size) (fun e => hn (Or.inr e))).trans (h.block b hb (fun e => hn (Or.inl e))),
   fun b hb => k.obj b (h.obj b hb)⟩
theorem Fr.mono {w w' : World} {S T : Nat → Prop} (h : Fr w w' S) (hs : ∀ b, S b → T b) : Fr w w' T :=
  ⟨h.os, h.tape, h.output, h.size, fun b o hb hn => h.cell b o hb (fun e => hn (hs b e)), h.frozen, fun b hb hn => h.block b hb (fun e => hn (hs b e)), h.obj⟩
theorem Fr.drewN {w w' : World} {S : Nat → Prop} (h : Fr w w' S) (q : Nat) : Fr w (w'.drewN q) S := ⟨h.os, h.tape, h.output, h.size, h.cell, h.frozen, h.block, h.obj⟩
theorem Fr.drew {w w' : World} {S : Nat → Prop} (h : Fr w w' S) : Fr w w'.drew S := ⟨h.os, h.tape, h.output, h.size, h.cell, h.frozen, h.block, h.obj⟩
theorem Fr.below {w w' : World} {S : Nat → Prop} (h : Fr w w' S) {B : Nat} (hB : B ≤ w.heap.size) (hs : ∀ b, S b → B ≤ b) : Below B w w' :=
  ⟨h.os, h.tape, h.output, h.size, fun k hk => h.block k (by omega) (fun e => by have := hs k e; omega)⟩

theorem Rem.fr {w w' : World} {ob oo vb : Nat} (h : Rem w w' ob oo vb) : Fr w w' (fun b => b = vb ∨ b = ob) :=
  ⟨h.os, h.tape, h.output, by rw [h.size]; exact Nat.le_refl _, fun b o _ hn => h.other b o (fun e => hn (Or.inl e)) (Or.inl (fun e => hn (Or.inr e))), fun b o _ => h.frozen _, fun b _ hn => h.block b (fun e => hn (Or.inl e)) (fun e => hn (Or.inr e)), h.obj⟩
theorem fr_setCell (w : World) (b o : Nat) (v : Value) : Fr w (w.setCell ⟨b, o, none⟩ v) (fun k => k = b) where
  os := rfl
  tape := rfl
  output := rfl
  size := by rw [World.size_setCell]; exact Nat.le_refl _
  cell k o' _ hn := sc_other (ne_blk _ _ _ _ (fun e => hn e.symm))
  frozen k o' _ := World.frozen?_setCell ..
  block k _ hn := heap_setCell_other _ _ _ _ hn
  obj _ h := obj_setCell h _ _

theorem OrdAt.kept' {w w' : World} {ob oo kb vb tb : Nat} {ks ts : List Int} {ps : List Nat} (h : OrdAt w ob oo kb vb tb ks ts ps)
    (hs : ∀ o, oo ≤ o → o ≤ oo + 3 → w'.cell? ⟨ob, o, none⟩ = w.cell? ⟨ob, o, none⟩) (hk : ∀ o, w'.cell? ⟨kb, o, none⟩ = w.cell? ⟨kb, o, none⟩) (hv : ∀ o, w'.cell? ⟨vb, o, none⟩ = w.cell? ⟨vb, o, none⟩) (ht : ∀ o, w'.cell? ⟨tb, o, none⟩ = w.cell? ⟨tb, o, none⟩)
    (hf : ∀ o, w'.frozen? ⟨ob, o, none⟩ = w.frozen? ⟨ob, o, none⟩) (hg : ∀ o, w'.frozen? ⟨vb, o, none⟩ = w.frozen? ⟨vb, o, none⟩) : OrdAt w' ob oo kb vb tb ks ts ps where
  lk := h.lk
  lt := h.lt
  small := h.small
  pos := h.pos
  c0 := by obtain ⟨c, hc, e⟩ := h.c0; exact ⟨c, hc, (hs oo (by omega) (by omega)).trans e⟩
  c1 := by obtain ⟨c, hc, e⟩ := h.c1; exact ⟨c, hc, (hs (oo + 1) (by omega) (by omega)).trans e⟩
  c2 := by obtain ⟨c, hc, e⟩ := h.c2; exact ⟨c, hc, (hs (oo + 2) (by omega) (by omega)).trans e⟩
  c3 := (hs (oo + 3) (by omega) (by omega)).trans h.c3
  fz o := (hf _).trans (h.fz o)
  fv o := (hg _).trans (h.fv o)
  rk := h.rk.kept hk
  rt := h.rt.kept ht
  rv := h.rv.kept hv
  n1 := h.n1
  n2 := h.n2
  n3 := h.n3
  n4 := h.n4
  n5 := h.n5
theorem nd2 {l : List Nat} (h : l.Nodup) (i j : Nat) (hi : i < l.length) (hj : j < l.length) (hij : i ≠ j) : l.getD i 0 ≠ l.getD j 0 := by
  have hp := List.pairwise_iff_getElem.1 h
  simp only [List.getD, List.getElem?_eq_getElem hi, List.getElem?_eq_getElem hj, Option.getD_some]
  rcases Nat.lt_or_gt_of_ne hij with h | h
  · exact hp i j hi hj h
  · exact (hp j i hj hi h).symm

/-- The world behind the two removals and the store of nil at the chain. -/
structure Mid (w w' : World) (ch sh kb1 vb1 tb1 kb2 vb2 tb2 c1 c2 : Nat) (two : Bool) (ks1 ts1 ks2 ts2 : List Int) (ps1 ps2 : List Nat) : Prop where
  fr : Fr w w' (fun b => b = vb1 ∨ b = vb2 ∨ b = ch ∨ b = sh)
  l1 : OrdLeft w' sh 2 kb1 vb1 tb1 (eK ks1 c1) (eK ts1 c1) (eV ps1 c1) (eM ps1.length c1)
  l2 : OrdLeft w' sh (qOff two) kb2 vb2 tb2 (eK ks2 c2) (eK ts2 c2) (eV ps2 c2) (eM ps2.length c2)
  sho : ∀ o, (o < 2 ∨ (qOff (!two) ≤ o ∧ o ≤ qOff (!two) + 3)) → w'.cell? ⟨sh, o, none⟩ = w.cell? ⟨sh, o, none⟩
  ch13 : w'.cell? ⟨ch, 13, none⟩ = some (.pointer none)
  cho : ∀ o, o ≠ 13 → w'.cell? ⟨ch, o, none⟩ = w.cell? ⟨ch, o, none⟩

theorem mid_of {w w1 w2 : World} {ch sh kb1 vb1 tb1 kb2 vb2 tb2 c1 c2 : Nat} {two : Bool} {ks1 ts1 ks2 ts2 : List Int} {ps1 ps2 : List Nat} {u : Value}
    (nd : [ch, sh, kb1, vb1, tb1, kb2, vb2, tb2].Nodup) (hl1 : OrdLeft w1 sh 2 kb1 vb1 tb1 (eK ks1 c1) (eK ts1 c1) (eV ps1 c1) (eM ps1.length c1)) (hr1 : Rem w w1 sh 2 vb1)
    (hl2 : OrdLeft w2 sh (qOff two) kb2 vb2 tb2 (eK ks2 c2) (eK ts2 c2) (eV ps2 c2) (eM ps2.length c2)) (hr2 : Rem w1 w2 sh (qOff two) vb2) (h13 : w.cell? ⟨ch, 13, none⟩ = some u) :
    Mid w (w2.setCell ⟨ch, 13, none⟩ (.pointer none)) ch sh kb1 vb1 tb1 kb2 vb2 tb2 c1 c2 two ks1 ts1 ks2 ts2 ps1 ps2 := by
  have ch_sh : ch ≠ sh := nd2 nd 0 1 (by simp) (by simp) (by decide)
  have ch_v1 : ch ≠ vb1 := nd2 nd 0 3 (by simp) (by simp) (by decide)
  have ch_v2 : ch ≠ vb2 := nd2 nd 0 6 (by simp) (by simp) (by decide)
  have k1_v2 : kb1 ≠ vb2 := nd2 nd 2 6 (by simp) (by simp) (by decide)
  have v1_v2 : vb1 ≠ vb2 := nd2 nd 3 6 (by simp) (by simp) (by decide)
  have t1_v2 : tb1 ≠ vb2 := nd2 nd 4 6 (by simp) (by simp) (by decide)
  have sh_k1 : sh ≠ kb1 := nd2 nd 1 2 (by simp) (by simp) (by decide)
  have sh_v1 : sh ≠ vb1 := nd2 nd 1 3 (by simp) (by simp) (by decide)
  have sh_t1 : sh ≠ tb1 := nd2 nd 1 4 (by simp) (by simp) (by decide)
  have sh_v2 : sh ≠ vb2 := nd2 nd 1 6 (by simp) (by simp) (by decide)
  have c_k1 : ch ≠ kb1 := nd2 nd 0 2 (by simp) (by simp) (by decide)
  have c_t1 : ch ≠ tb1 := nd2 nd 0 4 (by simp) (by simp) (by decide)
  have c_k2 : ch ≠ kb2 := nd2 nd 0 5 (by simp) (by simp) (by decide)
  have c_t2 : ch ≠ tb2 := nd2 nd 0 7 (by simp) (by simp) (by decide)
  have hq : qOff two = 6 ∨ qOff two = 10 := by cases two <;> simp [qOff]
  have sc : ∀ b o, b ≠ ch → (w2.setCell ⟨ch, 13, none⟩ (.pointer none)).cell? ⟨b, o, none⟩ = w2.cell? ⟨b, o, none⟩ := fun b o h => sc_other (ne_blk _ _ _ _ (fun e => h e.symm))
  refine ⟨?_, ?_, ?_, ?_, ?_, ?_⟩
  · refine ((hr1.fr.trans hr2.fr).trans (fr_setCell w2 ch 13 (.pointer none))).mono ?_
    intro b hb
    rcases hb with ((h | h) | (h | h)) | h <;> simp [h]
  · refine hl1.kept (fun o h1 h2 => (sc _ _ ch_sh.symm).trans (hr2.other _ _ sh_v2 (Or.inr (by omega)))) (fun _ o => (sc _ _ c_k1.symm).trans (hr2.cell k1_v2 sh_k1.symm o)) (fun _ o => (sc _ _ ch_v1.symm).trans (hr2.cell v1_v2 sh_v1.symm o)) (fun _ o => (sc _ _ c_t1.symm).trans (hr2.cell t1_v2 sh_t1.symm o))
  · exact hl2.kept (fun o _ _ => sc _ _ ch_sh.symm) (fun _ o => sc _ _ c_k2.symm) (fun _ o => sc _ _ ch_v2.symm) (fun _ o => sc _ _ c_t2.symm)
  · intro o ho
    have hq' : qOff (!two) = 6 ∧ qOff two = 10 ∨ qOff (!two) = 10 ∧ qOff two = 6 := by cases two <;> simp [qOff]
    rw [sc _ _ ch_sh.symm, hr2.other _ _ sh_v2 (Or.inr (by omega)), hr1.other _ _ sh_v1 (Or.inr (by omega))]
  · refine sc_same (u := u) ?_
    rw [hr2.cell ch_v2 ch_sh, hr1.cell ch_v1 ch_sh]; exact h13
  · intro o ho
    rw [sc_other (ne_off _ _ _ (fun e => ho e.symm)), hr2.cell ch_v2 ch_sh, hr1.cell ch_v1 ch_sh]

theorem VwB.shape {w : World} {b : Nat} {v : Value} {vs : List Value} (h : VwB w b v vs) : ∃ a c, v = .slice a vs.length c := by
  obtain ⟨a, c, e, _⟩ := h; exact ⟨a, c, e⟩
/-- The last of the numbers that a slice holds. -/
theorem VwB.last {w : World} {b m : Nat} {v : Value} {xs : List Int} (h : VwB w b v (ints xs)) (hl : xs.length = m + 1) : ∃ o c, v = .slice (some ⟨b, o, none⟩) (m + 1) c ∧ w.cell? ⟨b, o + m, none⟩ = some (.int .i64 (xs.getLastD 0)) := by
  obtain ⟨a, c, e, H⟩ := h
  obtain ⟨o, ea, hc⟩ := H (by rw [ints_len]; omega)
  refine ⟨o, c, by rw [e, ea, ints_len, hl], ?_⟩
  rw [hc m (by rw [ints_len]; omega)]
  have hne : xs ≠ [] := by intro e; rw [e] at hl; simp at hl
  simp [ints, List.getLastD_eq_getLast?, List.getLast?_eq_getElem?, hl]
theorem VwB.head {w : World} {b m : Nat} {v : Value} {xs : List Int} (h : VwB w b v (ints xs)) (hl : xs.length = m + 1) : ∃ o c, v = .slice (some ⟨b, o, none⟩) (m + 1) c ∧ w.cell? ⟨b, o, none⟩ = some (.int .i64 (xs.headD 0)) := by
  obtain ⟨a, c, e, H⟩ := h
  obtain ⟨o, ea, hc⟩ := H (by rw [ints_len]; omega)
  refine ⟨o, c, by rw [e, ea, ints_len, hl], ?_⟩
  have := hc 0 (by rw [ints_len]; omega)
  rw [Nat.add_zero] at this
  rw [this]
  cases xs with
  | nil => simp at hl
  | cons y ys => simp [ints]
theorem eV_len (ps : List Nat) (c : Nat) (hc : c < ps.length) : (eV ps c).length = if c = 0 ∨ c + 1 = ps.length then ps.length - 1 else ps.length := by
  unfold eV
  by_cases h0 : c = 0
  · simp [h0]
  · by_cases h1 : c + 1 = ps.length
    · rw [if_neg h0, if_pos h1, if_pos (Or.inr h1)]; simp; omega
    · rw [if_neg h0, if_neg h1, if_neg (by omega)]; simp
theorem eK_len (xs : List Int) (n c : Nat) (hl : xs.length = n) (hc : c < n) : (eK xs c).length = if c = 0 ∨ c + 1 = n then n - 1 else n := by
  unfold eK
  by_cases h0 : c = 0
  · simp [h0, hl]
  · by_cases h1 : c + 1 = n
    · rw [if_neg h0, if_pos (by omega), if_pos (Or.inr h1)]; simp; omega
    · rw [if_neg h0, if_neg (by omega), if_neg (by omega)]; exact hl
end Go.Proofs.Ybulkexnkw
