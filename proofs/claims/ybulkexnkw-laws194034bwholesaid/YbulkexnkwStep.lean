/-
  One round of the loop that makes the chains.
-/
import Derived.Test.YbulkexnkwMade
import Derived.Test.YbulkexnkwFill
namespace Go.Proofs.Ybulkexnkw
open Go.RowKit

/-- The entry's three stores. -/
def put3 (w : World) (eB k : Nat) (x r : Int) (nb : Nat) : World := ((w.setCell ⟨eB, k * 3, none⟩ (.int .i64 x)).setCell ⟨eB, k * 3 + 1, none⟩ (.int .i64 r)).setCell ⟨eB, k * 3 + 2, none⟩ (.pointer (some ⟨nb, 0, none⟩))
theorem put3_fr (w : World) (eB k : Nat) (x r : Int) (nb : Nat) : FrO w (put3 w eB k x r nb) (fun b o => b = eB ∧ k * 3 ≤ o ∧ o ≤ k * 3 + 2) :=
  (((FrO.setCell w eB (k * 3) _).trans (FrO.setCell _ eB (k * 3 + 1) _)).trans (FrO.setCell _ eB (k * 3 + 2) _)).mono (fun b o h => by omega)
theorem put3_ex {w : World} {eB k : Nat} {x r : Int} {nb : Nat} {o : Nat} (h : ∃ u, w.cell? ⟨eB, o, none⟩ = some u) : ∃ u, (put3 w eB k x r nb).cell? ⟨eB, o, none⟩ = some u := sc_ex (sc_ex (sc_ex h))
theorem put3_at {w : World} {eB k : Nat} {x r : Int} {nb : Nat} (h : ∀ o, k * 3 ≤ o → o ≤ k * 3 + 2 → ∃ u, w.cell? ⟨eB, o, none⟩ = some u) :
    (put3 w eB k x r nb).cell? ⟨eB, k * 3, none⟩ = some (.int .i64 x) ∧ (put3 w eB k x r nb).cell? ⟨eB, k * 3 + 1, none⟩ = some (.int .i64 r) ∧ (put3 w eB k x r nb).cell? ⟨eB, k * 3 + 2, none⟩ = some (.pointer (some ⟨nb, 0, none⟩)) := by
  have x0 := h (k * 3) (by omega) (by omega)
  have x1 : ∃ u, (w.setCell ⟨eB, k * 3, none⟩ (.int .i64 x)).cell? ⟨eB, k * 3 + 1, none⟩ = some u := sc_ex (h (k * 3 + 1) (by omega) (by omega))
  have x2 : ∃ u, ((w.setCell ⟨eB, k * 3, none⟩ (.int .i64 x)).setCell ⟨eB, k * 3 + 1, none⟩ (.int .i64 r)).cell? ⟨eB, k * 3 + 2, none⟩ = some u := sc_ex (sc_ex (h (k * 3 + 2) (by omega) (by omega)))
  unfold put3
  refine ⟨?_, ?_, ?_⟩
  · rw [sc_at x2, if_neg (by omega), sc_at x1, if_neg (by omega), sc_at x0, if_pos ⟨rfl, rfl⟩]
  · rw [sc_at x2, if_neg (by omega), sc_at x1, if_pos ⟨rfl, rfl⟩]
  · rw [sc_at x2, if_pos ⟨rfl, rfl⟩]

theorem obj_grown {w w' : World} {row : Option Nat} (g : w.grownBy w' row) {b : Nat} (h : Obj w b) (hr : row ≠ some b) : Obj w' b := obj_of_heap h (g.block b (obj_lt h) (fun e => hr e.symm))

theorem made_step {w3 w Wd We Wf Wg : World} {eB m p : Nat} {ls gs : List Int} {cs : List Bool} {sz : Int} {blk : Nat → Nat} {k : Nat} {c : Value} {kv vv : Bool → Value} {q : Int} {two : Bool} {nb : Nat} {kv1 vv1 : Value}
    (M : Made w3 w eB m p ls gs cs sz blk k c kv vv q) (hk : k < m) (heB : eB < w3.heap.size) (ht : cs.getD k false = two)
    (hD : Below w.heap.size w Wd) (n1 : w.heap.size ≤ nb) (n2 : nb < Wd.heap.size) (hob : Obj Wd nb)
    (hP : k = p → Picked Wd w.heap.size nb two (ls.getD k 0) (rk gs (k + 1)) sz (fun _ => .slice none 0 0) (fun _ => .slice none 0 0))
    (hE : We.ownsRow w3.heap.size 2 1 kv1 ((idx cs two k).length + 1) (ints (keysOf gs cs two k) ++ [.int .i64 (rk gs (k + 1))])) (gE : Wd.grownBy We (kv two).ownBlock) (bE : kv1.ownBlock = (kv two).ownBlock ∨ kv1.ownBlock = some Wd.heap.size)
    (hF : Below We.heap.size We Wf)
    (hG : Wg.ownsRow w3.heap.size 40 1 vv1 ((idx cs two k).length + 1) (ptrs ((blksOf cs two blk k).map some) ++ [.pointer (some ⟨nb, 0, none⟩)])) (gG : Wf.grownBy Wg (vv two).ownBlock) (bG : vv1.ownBlock = (vv two).ownBlock ∨ vv1.ownBlock = some Wf.heap.size) :
    Made w3 (put3 Wg eB k (ls.getD k 0) (rk gs (k + 1)) nb) eB m p ls gs cs sz (fun j => if j = k then nb else blk j) (k + 1) (if k = p then .pointer (some ⟨nb, 0, none⟩) else c)
      (fun t => if t = two then kv1 else kv t) (fun t => if t = two then vv1 else vv t) (if k = p then ((idx cs two k).length : Int) else q) := by
  have s3 := M.fr.size
  have sD := hD.size
  have sE := gE.size
  have sF := hF.size
  have sG := gG.size
  have kl : ∀ t b, (kv t).ownBlock = some b → w3.heap.size ≤ b ∧ b < w.heap.size := fun t b h => own_lt (M.two t).rk_ h
  have vl : ∀ t b, (vv t).ownBlock = some b → w3.heap.size ≤ b ∧ b < w.heap.size := fun t b h => own_lt (M.two t).rv_ h
  -- a block that no row is stays as it was
  have keep : ∀ b, b < w.heap.size → (kv two).ownBlock ≠ some b → (vv two).ownBlock ≠ some b → Wg.heap[b]? = w.heap[b]? := fun b hb h1 h2 =>
    ((gG.block b (by omega) (fun e => h2 e.symm)).trans (hF.block b (by omega))).trans ((gE.block b (by omega) (fun e => h1 e.symm)).trans (hD.block b hb))
  have keepD : ∀ b, w.heap.size ≤ b → b < Wd.heap.size → Wg.heap[b]? = Wd.heap[b]? := fun b h1 h2 =>
    ((gG.block b (by omega) (fun e => by have := vl two b e.symm; omega)).trans (hF.block b (by omega))).trans (gE.block b h2 (fun e => by have := kl two b e.symm; omega))
  have FH := put3_fr Wg eB k (ls.getD k 0) (rk gs (k + 1)) nb
  have nkE : (kv two).ownBlock ≠ some eB := fun e => by have := kl two eB e; omega
  have nvE : (vv two).ownBlock ≠ some eB := fun e => by have := vl two eB e; omega
  have kE := keep eB (by omega) nkE nvE
  have cE : ∀ o, Wg.cell? ⟨eB, o, none⟩ = w.cell? ⟨eB, o, none⟩ := fun o => World.cell?_of_block (w := w) kE
  have low : ∀ b, b < w3.heap.size → Wg.heap[b]? = w.heap[b]? := fun b hb => keep b (by omega) (fun e => by have := kl two b e; omega) (fun e => by have := vl two b e; omega)
  have F3 : FrO w3 Wg (fun b _ => b = eB) :=
    ⟨(gG.os.trans hF.os).trans ((gE.os.trans hD.os).trans M.fr.os), (gG.tape.trans hF.tape).trans ((gE.tape.trans hD.tape).trans M.fr.tape), (gG.output.trans hF.output).trans ((gE.output.trans hD.output).trans M.fr.output), by omega,
     fun b o hb hn => (World.cell?_of_block (w := w) (a := ⟨b, o, none⟩) (low b hb)).trans (M.fr.cell b o hb hn), fun b o hb => (World.frozen?_of_block (w := w) (a := ⟨b, o, none⟩) (low b hb)).trans (M.fr.frozen b o hb),
     fun b hb hn => (low b hb).trans (M.fr.block b hb hn), fun b hb => obj_of_heap (M.fr.obj b hb) (low b (obj_lt hb))⟩
  have sH := FH.size
  have hW : ∀ b, b < Wg.heap.size → b ≠ eB → (put3 Wg eB k (ls.getD k 0) (rk gs (k + 1)) nb).heap[b]? = Wg.heap[b]? := fun b hb hne => FH.block b hb (fun o e => hne e.1)
  have kn : ∀ t b, b < Wd.heap.size → (∀ s, (kv s).ownBlock ≠ some b) → (if t = two then kv1 else kv t).ownBlock ≠ some b := fun t b hb h e => by
    by_cases et : t = two
    · rw [if_pos et] at e
      rcases bE with h1 | h1
      · exact h two (h1.symm.trans e)
      · rw [h1] at e
        injection e with e
        omega
    · rw [if_neg et] at e
      exact h t e
  have vn : ∀ t b, b < Wf.heap.size → (∀ s, (vv s).ownBlock ≠ some b) → (if t = two then vv1 else vv t).ownBlock ≠ some b := fun t b hb h e => by
    by_cases et : t = two
    · rw [if_pos et] at e
      rcases bG with h1 | h1
      · exact h two (h1.symm.trans e)
      · rw [h1] at e
        injection e with e
        omega
    · rw [if_neg et] at e
      exact h t e
  obtain ⟨m1, m2, m3⟩ := two_more ht gs blk nb
  have kc : ∀ s b, (if s = two then kv1 else kv s).ownBlock = some b → (kv s).ownBlock = some b ∨ (s = two ∧ b = Wd.heap.size ∧ b < We.heap.size) := fun s b e => by
    by_cases es : s = two
    · rw [if_pos es] at e
      rcases bE with h1 | h1
      · exact Or.inl (by rw [es]; exact h1.symm.trans e)
      · have hb := own_lt hE e
        rw [h1] at e
        injection e with e
        exact Or.inr ⟨es, e.symm, hb.2⟩
    · rw [if_neg es] at e
      exact Or.inl e
  have vc : ∀ s b, (if s = two then vv1 else vv s).ownBlock = some b → (vv s).ownBlock = some b ∨ (s = two ∧ b = Wf.heap.size) := fun s b e => by
    by_cases es : s = two
    · rw [if_pos es] at e
      rcases bG with h1 | h1
      · exact Or.inl (by rw [es]; exact h1.symm.trans e)
      · rw [h1] at e
        injection e with e
        exact Or.inr ⟨es, e.symm⟩
    · rw [if_neg es] at e
      exact Or.inl e
  have dk : ∀ s t b, s ≠ t → (kv s).ownBlock = some b → (kv t).ownBlock ≠ some b := fun s t b hst h => by
    cases s <;> cases t
    · exact absurd rfl hst
    · exact M.d2 b h
    · exact fun e => M.d2 b e h
    · exact absurd rfl hst
  have dv : ∀ s t b, s ≠ t → (vv s).ownBlock = some b → (vv t).ownBlock ≠ some b := fun s t b hst h => by
    cases s <;> cases t
    · exact absurd rfl hst
    · exact M.d3 b h
    · exact fun e => M.d3 b e h
    · exact absurd rfl hst
  have dk' : ∀ s t b, s ≠ t → (if s = two then kv1 else kv s).ownBlock = some b → (if t = two then kv1 else kv t).ownBlock ≠ some b := fun s t b hst h1 h2 => by
    rcases kc s b h1 with a | ⟨a, a', _⟩ <;> rcases kc t b h2 with d | ⟨d, d', _⟩
    · exact dk s t b hst a d
    · have := kl s b a
      omega
    · have := kl t b d
      omega
    · exact hst (a.trans d.symm)
  have dv' : ∀ s t b, s ≠ t → (if s = two then vv1 else vv s).ownBlock = some b → (if t = two then vv1 else vv t).ownBlock ≠ some b := fun s t b hst h1 h2 => by
    rcases vc s b h1 with a | ⟨a, a'⟩ <;> rcases vc t b h2 with d | ⟨d, d'⟩
    · exact dv s t b hst a d
    · have := vl s b a
      omega
    · have := vl t b d
      omega
    · exact hst (a.trans d.symm)
  have TT : ∀ t, Two (put3 Wg eB k (ls.getD k 0) (rk gs (k + 1)) nb) w3.heap.size gs cs t (fun j => if j = k then nb else blk j) (k + 1) (if t = two then kv1 else kv t) (if t = two then vv1 else vv t) := fun t => by
    by_cases et : t = two
    · subst et
      rw [if_pos rfl, if_pos rfl]
      refine ⟨?_, ?_, fun h => by omega, fun h => by omega⟩
      · rw [m1, m2, show ints (keysOf gs cs t k ++ [rk gs (k + 1)]) = ints (keysOf gs cs t k) ++ [.int .i64 (rk gs (k + 1))] by simp [ints]]
        refine own_kept hE (fun b hb => ?_)
        have hl := own_lt hE hb
        rw [hW b (by omega) (by omega), gG.block b (by omega) (fun e => ?_), hF.block b hl.2]
        have h1 := vl t b e.symm
        rcases bE with h2 | h2
        · exact M.d1 t t b (h2.symm.trans hb) e.symm
        · rw [h2] at hb
          injection hb with hb
          omega
      · rw [m1, m3, show ptrs ((blksOf cs t blk k ++ [nb]).map some) = ptrs ((blksOf cs t blk k).map some) ++ [.pointer (some ⟨nb, 0, none⟩)] by simp [ptrs, pv]]
        refine own_kept hG (fun b hb => ?_)
        have hl := own_lt hG hb
        exact hW b hl.2 (by omega)
    · rw [if_neg et, if_neg et]
      refine ((M.two t).skip (fun e => et (e.symm.trans ht)) nb).kept (fun b hb => ?_)
      have hl : w3.heap.size ≤ b ∧ b < w.heap.size := hb.elim (kl t b) (vl t b)
      rw [hW b (by omega) (by omega)]
      refine keep b hl.2 (fun e => ?_) (fun e => ?_)
      · rcases hb with h | h
        · exact dk t two b et h e
        · exact M.d1 two t b e h
      · rcases hb with h | h
        · exact M.d1 t two b h e
        · exact dv t two b et h e
  exact {
    fr := (F3.trans FH).mono (fun b o h => h.elim id And.left)
    ents := fun j hj => by
      by_cases e : j = k
      · subst e
        rw [if_pos rfl]
        exact put3_at (fun o h1 h2 => by rw [cE]; exact M.ex o (by omega))
      · rw [if_neg e]
        obtain ⟨a, b, c'⟩ := M.ents j (by omega)
        exact ⟨(FH.cell eB _ (by omega) (by omega)).trans ((cE _).trans a), (FH.cell eB _ (by omega) (by omega)).trans ((cE _).trans b), (FH.cell eB _ (by omega) (by omega)).trans ((cE _).trans c')⟩
    ex := fun o ho => put3_ex (by rw [cE]; exact M.ex o ho)
    inc := fun i j hij hj => by
      by_cases e : j = k
      · have := (M.lo i (by omega)).2
        rw [if_neg (by omega), if_pos e]
        omega
      · rw [if_neg (by omega), if_neg e]
        exact M.inc i j hij (by omega)
    lo := fun j hj => by
      by_cases e : j = k
      · rw [if_pos e]
        omega
      · rw [if_neg e]
        have := M.lo j (by omega)
        omega
    obj := fun j hj => by
      by_cases e : j = k
      · rw [if_pos e]
        exact FH.obj _ (obj_of_heap hob (keepD nb n1 n2))
      · rw [if_neg e]
        have h := M.nr j (by omega) two
        exact FH.obj _ (obj_of_heap (M.obj j (by omega)) (keep _ (M.lo j (by omega)).2 h.1 h.2))
    nr := fun j hj t => by
      by_cases e : j = k
      · rw [if_pos e]
        exact ⟨kn t nb n2 (fun s e => by have := kl s nb e; omega), vn t nb (by omega) (fun s e => by have := vl s nb e; omega)⟩
      · rw [if_neg e]
        have hl := (M.lo j (by omega)).2
        exact ⟨kn t _ (by omega) (fun s => (M.nr j (by omega) s).1), vn t _ (by omega) (fun s => (M.nr j (by omega) s).2)⟩
    two := TT
    d1 := fun s t b h1 h2 => by
      rcases kc s b h1 with a | ⟨_, a', a''⟩ <;> rcases vc t b h2 with d | ⟨_, d'⟩
      · exact M.d1 s t b a d
      · have := kl s b a
        omega
      · have := vl t b d
        omega
      · omega
    d2 := fun b h => dk' false true b (by decide) h
    d3 := fun b h => dv' false true b (by decide) h
    before := fun h => by
      rw [if_neg (by omega), if_neg (by omega)]
      exact M.before (by omega)
    after := fun h => by
      by_cases e : k = p
      · subst e
        rw [if_pos rfl, if_pos rfl, if_pos rfl, ht]
        refine ⟨rfl, rfl, ((hP rfl).kept (fun b hb1 hb2 _ => ?_) n1 (fun b hb1 hb2 _ t => ?_)).mono (by omega)⟩
        · rw [hW b (by omega) (by omega)]
          exact keepD b hb1 hb2
        · exact ⟨kn t b hb2 (fun s e => by have := kl s b e; omega), vn t b (by omega) (fun s e => by have := vl s b e; omega)⟩
      · rw [if_neg e, if_neg (fun e' => e e'.symm), if_neg e]
        obtain ⟨a1, a2, a3⟩ := M.after (by omega)
        refine ⟨a1, a2, a3.kept (fun b hb1 hb2 hb3 => ?_) (M.lo p (by omega)).1 (fun b hb1 hb2 hb3 t => ?_)⟩
        · rw [hW b (by omega) (by omega)]
          exact keep b hb2 (hb3 two).1 (hb3 two).2
        · exact ⟨kn t b (by omega) (fun s => (hb3 s).1), vn t b (by omega) (fun s => (hb3 s).2)⟩ }
end Go.Proofs.Ybulkexnkw
