/-
  The law's memory ahead of the chains' loop, and what the loop leaves.
-/
import Derived.Test.YbulkexnkwStep
namespace Go.Proofs.Ybulkexnkw
open Go.RowKit

/-- The sizes and the shapes. -/
structure SitA (w : World) (B z sh : Nat) (sz len : Int) (lkB ltB lvB zkB ztB zvB lkc ltc lvc zkc ztc zvc ns nz : Nat) (lk lt zk zt : List Int) (lps zps : List Nat) (sa za : Nat) : Prop where
  olk : Own w lkB (.slice (some ⟨lkB, 0, none⟩) ns lkc) (ints lk)
  olt : Own w ltB (.slice (some ⟨ltB, 0, none⟩) ns ltc) (ints lt)
  olv : Own w lvB (.slice (some ⟨lvB, 0, none⟩) ns lvc) (ptrs (lps.map some))
  ozk : Own w zkB (.slice (some ⟨zkB, 0, none⟩) nz zkc) (ints zk)
  ozt : Own w ztB (.slice (some ⟨ztB, 0, none⟩) nz ztc) (ints zt)
  ozv : Own w zvB (.slice (some ⟨zvB, 0, none⟩) nz zvc) (ptrs (zps.map some))
  ls : lk.length = ns ∧ lt.length = ns ∧ lps.length = ns ∧ 0 < ns ∧ ns ≤ 5000
  lz : zk.length = nz ∧ zt.length = nz ∧ zps.length = nz ∧ 0 < nz ∧ nz ≤ 5000
  S3 : Seat w lk lt lps sa sh len 0
  S4 : Seat w zk zt zps za z sz 0
  nR : ∀ b, b ∈ [lkB, ltB, lvB, zkB, ztB, zvB] → b ≠ z ∧ b ≠ sh
  n1 : z ≠ sh
  z1 : w.cell? ⟨z, 1, none⟩ = some (.int .i64 999)
  zc : ∀ o, 2 ≤ o → o ≤ 5 → ∃ v, w.cell? ⟨z, o, none⟩ = some v
  fz : ∀ o, w.frozen? ⟨z, o, none⟩ = false
  sh0 : w.cell? ⟨sh, 0, none⟩ = some (.int .i64 len)
  sh1 : w.cell? ⟨sh, 1, none⟩ = some (.int .i64 (-7))
  shc : ∀ o, 2 ≤ o → o ≤ 13 → ∃ v, w.cell? ⟨sh, o, none⟩ = some v
  fsh : ∀ o, w.frozen? ⟨sh, o, none⟩ = false
  Bz : B ≤ z
  Bsh : B ≤ sh
  Bs : B ≤ w.heap.size

theorem SitA.kept {w w' : World} {S : Nat → Nat → Prop} {B z sh : Nat} {sz len : Int} {lkB ltB lvB zkB ztB zvB lkc ltc lvc zkc ztc zvc ns nz : Nat} {lk lt zk zt : List Int} {lps zps : List Nat} {sa za : Nat}
    (h : SitA w B z sh sz len lkB ltB lvB zkB ztB zvB lkc ltc lvc zkc ztc zvc ns nz lk lt zk zt lps zps sa za) (F : FrO w w' S) (hn : ∀ b o, b ∈ [lkB, ltB, lvB, zkB, ztB, zvB, z, sh] → ¬ S b o) :
    SitA w' B z sh sz len lkB ltB lvB zkB ztB zvB lkc ltc lvc zkc ztc zvc ns nz lk lt zk zt lps zps sa za where
  olk := h.olk.kept F (fun o => hn _ o (by simp))
  olt := h.olt.kept F (fun o => hn _ o (by simp))
  olv := h.olv.kept F (fun o => hn _ o (by simp))
  ozk := h.ozk.kept F (fun o => hn _ o (by simp))
  ozt := h.ozt.kept F (fun o => hn _ o (by simp))
  ozv := h.ozv.kept F (fun o => hn _ o (by simp))
  ls := h.ls
  lz := h.lz
  S3 := h.S3.keptO F
  S4 := h.S4.keptO F
  nR := h.nR
  n1 := h.n1
  z1 := F.some h.z1 (hn _ _ (by simp))
  zc := fun o h1 h2 => by obtain ⟨v, e⟩ := h.zc o h1 h2; exact ⟨v, F.some e (hn _ _ (by simp))⟩
  fz := fun o => (F.frozen _ _ (lt_of_cell h.z1)).trans (h.fz o)
  sh0 := F.some h.sh0 (hn _ _ (by simp))
  sh1 := F.some h.sh1 (hn _ _ (by simp))
  shc := fun o h1 h2 => by obtain ⟨v, e⟩ := h.shc o h1 h2; exact ⟨v, F.some e (hn _ _ (by simp))⟩
  fsh := fun o => (F.frozen _ _ (lt_of_cell h.sh0)).trans (h.fsh o)
  Bz := h.Bz
  Bsh := h.Bsh
  Bs := Nat.le_trans h.Bs F.size

theorem row_own {w : World} {base t n : Nat} {v : Value} {vs : List Value} (h : w.ownsRow base t 1 v n vs) (h0 : n = 0 → v = .slice none 0 0) (hl : vs.length = n) (d : Nat) (hd : d < w.heap.size) :
    ∃ b, Own w b v vs ∧ ((b = d ∧ n = 0) ∨ (base ≤ b ∧ v.ownBlock = some b)) := by
  by_cases hn : n = 0
  · have hv := h0 hn
    subst hv
    have e : vs = [] := List.eq_nil_of_length_eq_zero (by omega)
    subst e
    exact ⟨d, ⟨⟨none, 0, rfl, Nat.le_refl _, Or.inl ⟨rfl, rfl⟩⟩, fun j hj => by simp at hj, hd, fun h => by simp at h⟩, Or.inl ⟨rfl, hn⟩⟩
  · have hv : v ≠ .slice none 0 0 := fun e => by
      obtain ⟨_, h2 | ⟨g, cap, cur, e', _⟩⟩ := h
      · exact hn h2.2
      · rw [e] at e'
        cases e'
    obtain ⟨b, hb, ho⟩ := own_of_row h hv
    refine ⟨b, ho, Or.inr ⟨hb, ?_⟩⟩
    obtain ⟨c, _, e⟩ := ho.slice hl (by omega)
    rw [e]
    rfl

/-- What the chains' loop leaves is what the sort finds. -/
theorem site_of {w3 w : World} {B z sh eB m p : Nat} {sz len : Int} {lkB ltB lvB zkB ztB zvB lkc ltc lvc zkc ztc zvc ns nz : Nat} {ls gs lk lt zk zt : List Int} {cs : List Bool} {lps zps : List Nat} {sa za : Nat} {blk : Nat → Nat} {c : Value} {kv vv : Bool → Value} {q : Int} {two : Bool}
    (A : SitA w3 B z sh sz len lkB ltB lvB zkB ztB zvB lkc ltc lvc zkc ztc zvc ns nz lk lt zk zt lps zps sa za) (M : Made w3 w eB m p ls gs cs sz blk m c kv vv q) (hp : p < m) (hm5 : m ≤ 5000) (ht : cs.getD p false = two)
    (hg : ∀ g, g ∈ gs → 0 ≤ g) (hx1 : -9223372036854775808 ≤ ls.getD p 0) (hx2 : ls.getD p 0 ≤ 9223372036854775807)
    (heB : eB < w3.heap.size) (fe : ∀ o, w3.frozen? ⟨eB, o, none⟩ = false) (Be : B ≤ eB) (ne : ∀ b, b ∈ [lkB, ltB, lvB, zkB, ztB, zvB, z, sh] → b ≠ eB) :
    ∃ qkB qvB okB ovB qkc qvc on oc oa, kv two = .slice (some ⟨qkB, 0, none⟩) (idx cs two m).length qkc ∧ vv two = .slice (some ⟨qvB, 0, none⟩) (idx cs two m).length qvc ∧ kv (!two) = .slice oa on oc ∧
      SitE w B z (blk p) sh eB two (ls.getD p 0) (rk gs (p + 1)) sz len qkB qvB lkB ltB lvB zkB ztB zvB okB ovB qkc qvc lkc ltc lvc zkc ztc zvc m (idx cs two m).length ns nz (kv (!two)) (vv (!two)) (keysOf gs cs two m) (keysOf gs cs (!two) m) lk lt zk zt (entsOf ls gs blk m) (blksOf cs two blk m) lps zps ((blksOf cs (!two) blk m).map some) (idx cs two p).length sa za := by
  have s3 := M.fr.size
  have A' := A.kept M.fr (fun b o hb => ne b hb)
  obtain ⟨hcl, _⟩ := idx_at cs two hp ht
  have T1 := M.two two
  have T2 := M.two (!two)
  have l2 := idx_len cs two m
  have l3 := idx_len cs (!two) m
  have kl1 : (ints (keysOf gs cs two m)).length = (idx cs two m).length := by simp [ints, keysOf]
  have vl1 : (ptrs ((blksOf cs two blk m).map some)).length = (idx cs two m).length := by simp [ptrs, blksOf]
  have kl2 : (ints (keysOf gs cs (!two) m)).length = (idx cs (!two) m).length := by simp [ints, keysOf]
  have vl2 : (ptrs ((blksOf cs (!two) blk m).map some)).length = (idx cs (!two) m).length := by simp [ptrs, blksOf]
  have lkl := A'.olk.bl
  have lk3 := A.olk.bl
  obtain ⟨qkB, oqk, h1⟩ := row_own T1.rk_ T1.nk kl1 lkB lkl
  obtain ⟨qvB, oqv, h2⟩ := row_own T1.rv_ T1.nv vl1 lkB lkl
  obtain ⟨okB, ook, h3⟩ := row_own T2.rk_ T2.nk kl2 lkB lkl
  obtain ⟨ovB, oov, h4⟩ := row_own T2.rv_ T2.nv vl2 lkB lkl
  obtain ⟨qkc, c1, e1⟩ := oqk.slice kl1 (by omega)
  obtain ⟨qvc, c2, e2⟩ := oqv.slice vl1 (by omega)
  obtain ⟨oa, oc, e3, _⟩ := ook.e
  have zl : z < w3.heap.size := lt_of_cell A.z1
  have sl : sh < w3.heap.size := lt_of_cell A.sh0
  obtain ⟨lp1, lp2⟩ := M.lo p hp
  have nlk := A.nR lkB (by simp)
  have elk := ne lkB (by simp)
  have ez := ne z (by simp)
  have es := ne sh (by simp)
  have nrk : ∀ t b, (kv t).ownBlock = some b → b ≠ blk p := fun t b e e' => (M.nr p hp t).1 (by rw [← e']; exact e)
  have nrv : ∀ t b, (vv t).ownBlock = some b → b ≠ blk p := fun t b e e' => (M.nr p hp t).2 (by rw [← e']; exact e)
  have old : ∀ b, b ∈ [lkB, ltB, lvB, zkB, ztB, zvB] → b < w3.heap.size := fun b hb => by
    simp only [List.mem_cons, List.not_mem_nil, or_false] at hb
    rcases hb with rfl | rfl | rfl | rfl | rfl | rfl
    · exact A.olk.bl
    · exact A.olt.bl
    · exact A.olv.bl
    · exact A.ozk.bl
    · exact A.ozt.bl
    · exact A.ozv.bl
  obtain ⟨_, _, PK⟩ := M.after hp
  rw [ht] at PK
  refine ⟨qkB, qvB, okB, ovB, qkc, qvc, _, oc, oa, e1, e2, e3, ?_⟩
  rw [e1] at oqk
  rw [e2] at oqv
  exact {
    oqk := oqk
    oqv := oqv
    olk := A'.olk
    olt := A'.olt
    olv := A'.olv
    ozk := A'.ozk
    ozt := A'.ozt
    ozv := A'.ozv
    ook := ook
    oov := oov
    lm := ⟨entsOf_len _ _ _ _, by omega, hm5⟩
    lq := ⟨by simp [keysOf], by simp [blksOf], by omega, by omega⟩
    ls := A'.ls
    lz := A'.lz
    lo := ⟨by simp [keysOf, blksOf], by simp [blksOf]; omega⟩
    ents := fun j hj => by
      rw [entsOf_len] at hj
      rw [entsOf_get ls gs blk hj]
      exact M.ents j hj
    fe := fun o => (M.fr.frozen _ _ heB).trans (fe o)
    el := by omega
    ne := by omega
    Be := Be
    ht := entsOf_ties ls blk m hg
    hb := entsOf_blocks ls gs blk m M.inc
    ho := entsOf_obj M.obj
    hm := entsOf_mem ls gs blk hp
    S2 := seat_q w gs cs two p m blk hp ht hg M.inc M.obj
    S3 := A'.S3
    S4 := A'.S4
    nR := fun b hb => by
      simp only [List.mem_cons, List.not_mem_nil, or_false] at hb
      have hold : b ∈ [lkB, ltB, lvB, zkB, ztB, zvB] → (b ≠ z ∧ b ≠ sh ∧ b ≠ blk p) ∧ b ≠ eB := fun h => by
        have a1 := A.nR b h
        have a2 := old b h
        have a3 := ne b (by simp only [List.mem_cons, List.not_mem_nil, or_false] at h ⊢; omega)
        omega
      rcases hb with rfl | rfl | hb
      · rcases h1 with ⟨a, a'⟩ | ⟨a, a'⟩
        · omega
        · have := nrk _ _ a'
          omega
      · rcases h2 with ⟨a, a'⟩ | ⟨a, a'⟩
        · omega
        · have := nrv _ _ a'
          omega
      · rcases hb with h | h | h | h | h | h | h | h
        · exact hold (by simp [h])
        · exact hold (by simp [h])
        · exact hold (by simp [h])
        · exact hold (by simp [h])
        · exact hold (by simp [h])
        · exact hold (by simp [h])
        · subst h
          rcases h3 with ⟨a, a'⟩ | ⟨a, a'⟩
          · exact hold (by simp [a])
          · have := nrk _ _ a'
            omega
        · subst h
          rcases h4 with ⟨a, a'⟩ | ⟨a, a'⟩
          · exact hold (by simp [a])
          · have := nrv _ _ a'
            omega
    n1 := A.n1
    n2 := by omega
    n3 := by omega
    z1 := A'.z1
    zc := A'.zc
    fz := A'.fz
    sh0 := A'.sh0
    sh1 := A'.sh1
    shc := A'.shc
    fsh := A'.fsh
    chc := PK.chc
    fch := PK.fch
    last := PK.last
    rank := PK.rank
    size := PK.size
    cars := fun h => by
      obtain ⟨cb, rb, cc, g1, g2, g3, ⟨a1, a2, _⟩, ⟨b1, b2, _⟩⟩ := PK.cars h
      exact ⟨cb, rb, cc, g1, g2, g3, by omega, by omega⟩
    hx1 := hx1
    hx2 := hx2
    Bz := A'.Bz
    Bsh := A'.Bsh
    Bch := by have := A.Bs; omega
    Bs := A'.Bs }
end Go.Proofs.Ybulkexnkw
