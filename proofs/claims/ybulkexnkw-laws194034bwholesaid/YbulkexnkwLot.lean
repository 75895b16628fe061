/-
  A lot: keys, ties, new blocks, one of them picked: the sizes, then the shapes.
-/
import Derived.Test.YbulkexnkwLaid
import Derived.Test.YbulkexnkwSitA
namespace Go.Proofs.Ybulkexnkw
open Go.RowKit

structure Lot (w : World) (B kB tB vB n a wid : Nat) (key : Nat → Int) (blk : Nat → Nat) (c1 : Int) : Prop where
  ok : Own w kB (.slice (some ⟨kB, 0, none⟩) n n) (ints ((List.range n).map key))
  ot : Own w tB (.slice (some ⟨tB, 0, none⟩) n n) (ints (List.replicate n 0))
  ov : Own w vB (.slice (some ⟨vB, 0, none⟩) n n) (ptrs (((List.range n).map blk).map some))
  seat : Seat w ((List.range n).map key) (List.replicate n 0) ((List.range n).map blk) a (blk a) (key a) 0
  nk : kB ≠ blk a
  nt : tB ≠ blk a
  nv : vB ≠ blk a
  x0 : w.cell? ⟨blk a, 0, none⟩ = some (.int .i64 (key a))
  x1 : w.cell? ⟨blk a, 1, none⟩ = some (.int .i64 c1)
  xc : ∀ o, o < wid → ∃ v, w.cell? ⟨blk a, o, none⟩ = some v
  fz : ∀ o, w.frozen? ⟨blk a, o, none⟩ = false
  lk : B ≤ kB
  lt : B ≤ tB
  lv : B ≤ vB
  lb : B ≤ blk a

theorem Lot.kept {w w' : World} {S : Nat → Nat → Prop} {B kB tB vB n a wid : Nat} {key : Nat → Int} {blk : Nat → Nat} {c1 : Int} (h : Lot w B kB tB vB n a wid key blk c1) (F : FrO w w' S) (hn : ∀ b o, b ∈ [kB, tB, vB, blk a] → ¬ S b o) :
    Lot w' B kB tB vB n a wid key blk c1 where
  ok := h.ok.kept F (fun o => hn _ o (by simp))
  ot := h.ot.kept F (fun o => hn _ o (by simp))
  ov := h.ov.kept F (fun o => hn _ o (by simp))
  seat := h.seat.keptO F
  nk := h.nk
  nt := h.nt
  nv := h.nv
  x0 := F.some h.x0 (hn _ _ (by simp))
  x1 := F.some h.x1 (hn _ _ (by simp))
  xc := fun o ho => by obtain ⟨v, e⟩ := h.xc o ho; exact ⟨v, F.some e (hn _ _ (by simp))⟩
  fz := fun o => (F.frozen _ _ (lt_of_cell h.x0)).trans (h.fz o)
  lk := h.lk
  lt := h.lt
  lv := h.lv
  lb := h.lb

/-- The three makes. -/
def mk3 (w : World) (n : Nat) (t : TypeId) : World := ((w.alloc (newRow' (.int .i64 0) n 2)).alloc (newRow' (.int .i64 0) n 2)).alloc (newRow' (.pointer none) n t)
theorem mk3_size (w : World) (n : Nat) (t : TypeId) : (mk3 w n t).heap.size = w.heap.size + 3 := by
  unfold mk3
  rw [size_alloc', size_alloc', size_alloc']
theorem mk3_below (w : World) (n : Nat) (t : TypeId) : Below w.heap.size w (mk3 w n t) :=
  (((Below.refl _ w).alloc (Nat.le_refl _) _).alloc (by rw [size_alloc']; omega) _).alloc (by rw [size_alloc', size_alloc']; omega) _
theorem mk3_own (w : World) (n : Nat) (t : TypeId) :
    Own (mk3 w n t) w.heap.size (.slice (some ⟨w.heap.size, 0, none⟩) n n) (List.replicate n (.int .i64 0)) ∧ Own (mk3 w n t) (w.heap.size + 1) (.slice (some ⟨w.heap.size + 1, 0, none⟩) n n) (List.replicate n (.int .i64 0)) ∧
    Own (mk3 w n t) (w.heap.size + 2) (.slice (some ⟨w.heap.size + 2, 0, none⟩) n n) (List.replicate n (.pointer none)) := by
  have hF : ∀ (w : World) (o : Go.Obj), FrO w (w.alloc o) (fun _ _ => False) := fun w o => FrO.of_below (below_alloc w o) _
  refine ⟨((make_own w _ n 2 rfl).kept (hF _ _) (fun _ h => h)).kept (hF _ _) (fun _ h => h), ?_, ?_⟩
  · have h := make_own (w.alloc (newRow' (.int .i64 0) n 2)) (.int .i64 0) n 2 rfl
    rw [size_alloc' w] at h
    exact h.kept (hF _ _) (fun _ h => h)
  · have h := make_own ((w.alloc (newRow' (.int .i64 0) n 2)).alloc (newRow' (.int .i64 0) n 2)) (.pointer none) n t rfl
    rw [size_alloc', size_alloc' w] at h
    exact h
theorem own_ex {w : World} {b n : Nat} {v z : Value} (h : Own w b v (List.replicate n z)) : ∀ j, j < n → ∃ v, w.cell? ⟨b, j, none⟩ = some v := fun j hj => by
  refine ⟨z, (h.row j (by simpa using hj)).trans ?_⟩
  simp [hj]
theorem mk3_laid (w : World) (n : Nat) (t : TypeId) (wid : Nat) (key : Nat → Int) : Laid (mk3 w n t) (mk3 w n t) w.heap.size (w.heap.size + 2) n wid key (fun _ => 0) 0 :=
  laid_start (own_ex (mk3_own w n t).1) (own_ex (mk3_own w n t).2.2)

theorem lot_of {w w2 : World} {n a wid : Nat} {t : TypeId} {key : Nat → Int} {blk : Nat → Nat} (h : Laid (mk3 w n t) w2 w.heap.size (w.heap.size + 2) n wid key blk n) (hr : ∀ i j, i < j → key i < key j) (ha : a < n) (hw : 2 ≤ wid) (c1 : Int) :
    Lot (w2.setCell ⟨blk a, 1, none⟩ (.int .i64 c1)) w.heap.size w.heap.size (w.heap.size + 1) (w.heap.size + 2) n a wid key blk c1 := by
  have z := mk3_size w n t
  have s := h.fr.size
  obtain ⟨o1, o2, o3⟩ := mk3_own w n t
  have hl := h.lo a ha
  have F : FrO w2 (w2.setCell ⟨blk a, 1, none⟩ (.int .i64 c1)) (fun b o => b = blk a ∧ o = 1) := FrO.setCell w2 (blk a) 1 _
  have lot : Own w2 w.heap.size (.slice (some ⟨w.heap.size, 0, none⟩) n n) (ints ((List.range n).map key)) := by
    refine ⟨⟨_, n, by simp [ints], by simp [ints], Or.inr rfl⟩, fun j hj => ?_, by omega, fun _ o => ?_⟩
    · have hj' : j < n := by simpa [ints] using hj
      rw [h.ck j hj']
      simp [ints, hj']
    · exact (h.fr.frozen _ _ (by omega)).trans (o1.fz (by simp; omega) o)
  have lov : Own w2 (w.heap.size + 2) (.slice (some ⟨w.heap.size + 2, 0, none⟩) n n) (ptrs (((List.range n).map blk).map some)) := by
    refine ⟨⟨_, n, by simp [ptrs], by simp [ptrs], Or.inr rfl⟩, fun j hj => ?_, by omega, fun _ o => ?_⟩
    · have hj' : j < n := by simpa [ptrs] using hj
      rw [h.cv j hj']
      simp [ptrs, pv, hj']
    · exact (h.fr.frozen _ _ (by omega)).trans (o3.fz (by simp; omega) o)
  have lotie : Own w2 (w.heap.size + 1) (.slice (some ⟨w.heap.size + 1, 0, none⟩) n n) (ints (List.replicate n 0)) := by
    rw [← ints_zeros]
    exact o2.kept h.fr (fun o e => by omega)
  obtain ⟨v1, e1⟩ := h.cx a ha 1 (by omega)
  exact {
    ok := lot.kept F (fun o e => by omega)
    ot := lotie.kept F (fun o e => by omega)
    ov := lov.kept F (fun o e => by omega)
    seat := (seat_laid h hr ha).keptO F
    nk := by omega
    nt := by omega
    nv := by omega
    x0 := F.some (h.c0 a ha) (fun e => by omega)
    x1 := by rw [sc_at ⟨v1, e1⟩, if_pos ⟨rfl, rfl⟩]
    xc := fun o ho => sc_ex (h.cx a ha o ho)
    fz := fun o => (F.frozen _ _ hl.2).trans (h.fz a ha o)
    lk := Nat.le_refl _
    lt := by omega
    lv := by omega
    lb := by omega }

/-- The sizes' lot and the shapes' lot are what the chains' loop finds. -/
theorem sitA_of {w : World} {B C zkB ztB zvB lkB ltB lvB nz ns za sa : Nat} {kz ks : Nat → Int} {bz bs : Nat → Nat} (Z : Lot w B zkB ztB zvB nz za 6 kz bz 999) (H : Lot w C lkB ltB lvB ns sa 14 ks bs (-7))
    (n1 : zkB < C) (n2 : ztB < C) (n3 : zvB < C) (n4 : bz za < C) (hBC : B ≤ C) (hs0 : 0 < ns) (hs5 : ns ≤ 5000) (hz0 : 0 < nz) (hz5 : nz ≤ 5000) :
    SitA w B (bz za) (bs sa) (kz za) (ks sa) lkB ltB lvB zkB ztB zvB ns ns ns nz nz nz ns nz ((List.range ns).map ks) (List.replicate ns 0) ((List.range nz).map kz) (List.replicate nz 0) ((List.range ns).map bs) ((List.range nz).map bz) sa za := by
  have a1 := H.lk
  have a2 := H.lt
  have a3 := H.lv
  have a4 := H.lb
  exact {
    olk := H.ok
    olt := H.ot
    olv := H.ov
    ozk := Z.ok
    ozt := Z.ot
    ozv := Z.ov
    ls := ⟨by simp, by simp, by simp, hs0, hs5⟩
    lz := ⟨by simp, by simp, by simp, hz0, hz5⟩
    S3 := H.seat
    S4 := Z.seat
    nR := fun b hb => by
      simp only [List.mem_cons, List.not_mem_nil, or_false] at hb
      have := H.nk
      have := H.nt
      have := H.nv
      have := Z.nk
      have := Z.nt
      have := Z.nv
      rcases hb with rfl | rfl | rfl | rfl | rfl | rfl <;> omega
    n1 := by omega
    z1 := Z.x1
    zc := fun o h1 h2 => Z.xc o (by omega)
    fz := Z.fz
    sh0 := H.x0
    sh1 := H.x1
    shc := fun o h1 h2 => H.xc o (by omega)
    fsh := H.fz
    Bz := Z.lb
    Bsh := by omega
    Bs := by have := Z.ok.bl; have := Z.lk; omega }
end Go.Proofs.Ybulkexnkw
