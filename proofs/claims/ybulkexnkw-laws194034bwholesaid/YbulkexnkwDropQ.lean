/-
  What dropShaped leaves behind.
-/
import Derived.Test.YbulkexnkwFr
namespace Go.Proofs.Ybulkexnkw
open Go.RowKit

/-- The blocks that the call must tell apart from. -/
def away8 (ch sh kb1 vb1 tb1 kb2 vb2 tb2 : Nat) (b : Nat) : Prop := b ∉ [ch, sh, kb1, vb1, tb1, kb2, vb2, tb2]

/-- Behind dropShaped: the chain, its two lists, the shape's other cells. -/
structure DropBoth (w w' : World) (ch sh kb1 vb1 tb1 kb2 vb2 tb2 c1 c2 : Nat) (two : Bool) (ks1 ts1 ks2 ts2 : List Int) (ps1 ps2 : List Nat) : Prop where
  l1 : OrdLeft w' sh 2 kb1 vb1 tb1 (eK ks1 c1) (eK ts1 c1) (eV ps1 c1) (eM ps1.length c1)
  l2 : OrdLeft w' sh (qOff two) kb2 vb2 tb2 (eK ks2 c2) (eK ts2 c2) (eV ps2 c2) (eM ps2.length c2)
  sho : ∀ o, qOff (!two) ≤ o → o ≤ qOff (!two) + 3 → w'.cell? ⟨sh, o, none⟩ = w.cell? ⟨sh, o, none⟩
  ch13 : w'.cell? ⟨ch, 13, none⟩ = some (.pointer none)
  cho : ∀ o, o ≠ 13 → w'.cell? ⟨ch, o, none⟩ = w.cell? ⟨ch, o, none⟩

theorem mid_both {w w3 w' : World} {ch sh kb1 vb1 tb1 kb2 vb2 tb2 c1 c2 : Nat} {two : Bool} {ks1 ts1 ks2 ts2 : List Int} {ps1 ps2 : List Nat} (M : Mid w w3 ch sh kb1 vb1 tb1 kb2 vb2 tb2 c1 c2 two ks1 ts1 ks2 ts2 ps1 ps2)
    (hsh : ∀ o, 2 ≤ o → w'.cell? ⟨sh, o, none⟩ = w3.cell? ⟨sh, o, none⟩) (hb : ∀ b, b ∈ [ch, kb1, vb1, tb1, kb2, vb2, tb2] → ∀ o, w'.cell? ⟨b, o, none⟩ = w3.cell? ⟨b, o, none⟩) :
    DropBoth w w' ch sh kb1 vb1 tb1 kb2 vb2 tb2 c1 c2 two ks1 ts1 ks2 ts2 ps1 ps2 := by
  have hq : qOff two = 6 ∨ qOff two = 10 := by cases two <;> simp [qOff]
  have hq' : qOff (!two) = 6 ∨ qOff (!two) = 10 := by cases two <;> simp [qOff]
  refine ⟨M.l1.kept (fun o h1 _ => hsh o h1) (fun _ => hb _ (by simp)) (fun _ => hb _ (by simp)) (fun _ => hb _ (by simp)),
    M.l2.kept (fun o h1 _ => hsh o (by omega)) (fun _ => hb _ (by simp)) (fun _ => hb _ (by simp)) (fun _ => hb _ (by simp)),
    fun o h1 h2 => (hsh o (by omega)).trans (M.sho o (Or.inr ⟨h1, h2⟩)), (hb ch (by simp) 13).trans M.ch13, fun o ho => (hb ch (by simp) o).trans (M.cho o ho)⟩

/-- .. where the shape keeps a chain. -/
structure DropA (w w' : World) (ch sh kb1 vb1 tb1 kb2 vb2 tb2 c1 c2 : Nat) (two : Bool) (ks1 ts1 ks2 ts2 : List Int) (ps1 ps2 : List Nat) : Prop where
  both : DropBoth w w' ch sh kb1 vb1 tb1 kb2 vb2 tb2 c1 c2 two ks1 ts1 ks2 ts2 ps1 ps2
  fr : Fr w w' (fun b => b = vb1 ∨ b = vb2 ∨ b = ch ∨ b = sh)
  latest : w'.cell? ⟨sh, 1, none⟩ = some (.int .i64 ((eK ks1 c1).getLastD 0))

theorem dropA_of {w w3 : World} {ch sh kb1 vb1 tb1 kb2 vb2 tb2 c1 c2 : Nat} {two : Bool} {ks1 ts1 ks2 ts2 : List Int} {ps1 ps2 : List Nat} {u : Value} (nd : [ch, sh, kb1, vb1, tb1, kb2, vb2, tb2].Nodup)
    (M : Mid w w3 ch sh kb1 vb1 tb1 kb2 vb2 tb2 c1 c2 two ks1 ts1 ks2 ts2 ps1 ps2) (h1 : w3.cell? ⟨sh, 1, none⟩ = some u) (q : Nat) :
    DropA w ((w3.setCell ⟨sh, 1, none⟩ (.int .i64 ((eK ks1 c1).getLastD 0))).drewN q) ch sh kb1 vb1 tb1 kb2 vb2 tb2 c1 c2 two ks1 ts1 ks2 ts2 ps1 ps2 where
  both := mid_both M (fun o ho => sc_other (ne_off _ _ _ (by omega))) (fun b hb o => sc_other (ne_blk _ _ _ _ (by
    have h0 : ch ≠ sh := nd2 nd 0 1 (by simp) (by simp) (by decide)
    have h2 : kb1 ≠ sh := nd2 nd 2 1 (by simp) (by simp) (by decide)
    have h3 : vb1 ≠ sh := nd2 nd 3 1 (by simp) (by simp) (by decide)
    have h4 : tb1 ≠ sh := nd2 nd 4 1 (by simp) (by simp) (by decide)
    have h5 : kb2 ≠ sh := nd2 nd 5 1 (by simp) (by simp) (by decide)
    have h6 : vb2 ≠ sh := nd2 nd 6 1 (by simp) (by simp) (by decide)
    have h7 : tb2 ≠ sh := nd2 nd 7 1 (by simp) (by simp) (by decide)
    simp at hb
    rcases hb with rfl | rfl | rfl | rfl | rfl | rfl | rfl
    · exact h0.symm
    · exact h2.symm
    · exact h3.symm
    · exact h4.symm
    · exact h5.symm
    · exact h6.symm
    · exact h7.symm)))
  fr := ((M.fr.trans (fr_setCell w3 sh 1 _)).mono (fun b hb => by rcases hb with h | h <;> simp_all)).drewN q
  latest := sc_same (u := u) h1

/-- .. where the shape goes with its last chain: what both ends share. -/
structure DropB (w w' : World) (tB z ch sh kb1 vb1 tb1 kb2 vb2 tb2 kb3 vb3 tb3 vb4 c1 c2 c3 : Nat) (two : Bool) (ks1 ts1 ks2 ts2 ks3 ts3 : List Int) (ps1 ps2 ps3 : List Nat) : Prop where
  both : DropBoth w w' ch sh kb1 vb1 tb1 kb2 vb2 tb2 c1 c2 two ks1 ts1 ks2 ts2 ps1 ps2
  fr : Fr w w' (fun b => b = vb1 ∨ b = vb2 ∨ b = ch ∨ b = sh ∨ b = tB ∨ b = z ∨ b = vb3 ∨ b = vb4)
  latest : w'.cell? ⟨sh, 1, none⟩ = w.cell? ⟨sh, 1, none⟩
  t12 : w'.cell? ⟨tB, 12, none⟩ = some (.slice none 0 0)
  l3 : OrdLeft w' z 2 kb3 vb3 tb3 (eK ks3 c3) (eK ts3 c3) (eV ps3 c3) (eM ps3.length c3)

/-- The world behind the removal of the shape from its size. -/
structure Mid5 (w w3 w5 : World) (tB z kb3 vb3 tb3 c3 : Nat) (ks3 ts3 : List Int) (ps3 : List Nat) : Prop where
  l3 : OrdLeft w5 z 2 kb3 vb3 tb3 (eK ks3 c3) (eK ts3 c3) (eV ps3 c3) (eM ps3.length c3)
  rem : Rem (w3.setCell ⟨tB, 12, none⟩ (.slice none 0 0)) w5 z 2 vb3

theorem dropB_of {w w3 w5 w' : World} {tB z ch sh kb1 vb1 tb1 kb2 vb2 tb2 kb3 vb3 tb3 kb4 vb4 tb4 c1 c2 c3 : Nat} {two : Bool} {ks1 ts1 ks2 ts2 ks3 ts3 : List Int} {ps1 ps2 ps3 : List Nat} {u : Value}
    (nd : [ch, sh, kb1, vb1, tb1, kb2, vb2, tb2, tB, z, kb3, vb3, tb3, kb4, vb4, tb4].Nodup)
    (M : Mid w w3 ch sh kb1 vb1 tb1 kb2 vb2 tb2 c1 c2 two ks1 ts1 ks2 ts2 ps1 ps2) (h12 : w3.cell? ⟨tB, 12, none⟩ = some u)
    (M5 : Mid5 w w3 w5 tB z kb3 vb3 tb3 c3 ks3 ts3 ps3)
    (F : Fr w5 w' (fun b => b = tB ∨ b = z ∨ b = vb4)) (ht : w'.cell? ⟨tB, 12, none⟩ = w5.cell? ⟨tB, 12, none⟩) (hz : ∀ o, 2 ≤ o → o ≤ 5 → w'.cell? ⟨z, o, none⟩ = w5.cell? ⟨z, o, none⟩)
    (hs : ∀ b, b ∈ [ch, sh, kb1, vb1, tb1, kb2, vb2, tb2, kb3, vb3, tb3] → ∀ o, w'.cell? ⟨b, o, none⟩ = w5.cell? ⟨b, o, none⟩) :
    DropB w w' tB z ch sh kb1 vb1 tb1 kb2 vb2 tb2 kb3 vb3 tb3 vb4 c1 c2 c3 two ks1 ts1 ks2 ts2 ks3 ts3 ps1 ps2 ps3 := by
  have tB_z : tB ≠ z := nd2 nd 8 9 (by simp) (by simp) (by decide)
  have tB_v3 : tB ≠ vb3 := nd2 nd 8 11 (by simp) (by simp) (by decide)
  have key : ∀ i, i < 8 → ∀ o, w5.cell? ⟨[ch, sh, kb1, vb1, tb1, kb2, vb2, tb2, tB, z, kb3, vb3, tb3, kb4, vb4, tb4].getD i 0, o, none⟩ = w3.cell? ⟨[ch, sh, kb1, vb1, tb1, kb2, vb2, tb2, tB, z, kb3, vb3, tb3, kb4, vb4, tb4].getD i 0, o, none⟩ := by
    intro i hi o
    rw [M5.rem.cell (nd2 nd i 11 (by simp; omega) (by simp) (by omega)) (nd2 nd i 9 (by simp; omega) (by simp) (by omega))]
    exact sc_other (ne_blk _ _ _ _ (nd2 nd 8 i (by simp) (by simp; omega) (by omega)))
  have k0 := key 0 (by omega)
  have k1 := key 1 (by omega)
  have k2 := key 2 (by omega)
  have k3 := key 3 (by omega)
  have k4 := key 4 (by omega)
  have k5 := key 5 (by omega)
  have k6 := key 6 (by omega)
  have k7 := key 7 (by omega)
  simp only [List.getD, List.getElem?_cons_zero, List.getElem?_cons_succ, Option.getD_some] at k0 k1 k2 k3 k4 k5 k6 k7
  have f0 : ∀ o, w'.cell? ⟨ch, o, none⟩ = w3.cell? ⟨ch, o, none⟩ := fun o => (hs ch (by simp) o).trans (k0 o)
  have f1 : ∀ o, w'.cell? ⟨sh, o, none⟩ = w3.cell? ⟨sh, o, none⟩ := fun o => (hs sh (by simp) o).trans (k1 o)
  have f2 : ∀ o, w'.cell? ⟨kb1, o, none⟩ = w3.cell? ⟨kb1, o, none⟩ := fun o => (hs kb1 (by simp) o).trans (k2 o)
  have f3 : ∀ o, w'.cell? ⟨vb1, o, none⟩ = w3.cell? ⟨vb1, o, none⟩ := fun o => (hs vb1 (by simp) o).trans (k3 o)
  have f4 : ∀ o, w'.cell? ⟨tb1, o, none⟩ = w3.cell? ⟨tb1, o, none⟩ := fun o => (hs tb1 (by simp) o).trans (k4 o)
  have f5 : ∀ o, w'.cell? ⟨kb2, o, none⟩ = w3.cell? ⟨kb2, o, none⟩ := fun o => (hs kb2 (by simp) o).trans (k5 o)
  have f6 : ∀ o, w'.cell? ⟨vb2, o, none⟩ = w3.cell? ⟨vb2, o, none⟩ := fun o => (hs vb2 (by simp) o).trans (k6 o)
  have f7 : ∀ o, w'.cell? ⟨tb2, o, none⟩ = w3.cell? ⟨tb2, o, none⟩ := fun o => (hs tb2 (by simp) o).trans (k7 o)
  refine ⟨mid_both M (fun o _ => f1 o) (fun b hb => ?_), ?_, ?_, ?_, ?_⟩
  · simp only [List.mem_cons, List.not_mem_nil, or_false] at hb
    rcases hb with rfl | rfl | rfl | rfl | rfl | rfl | rfl
    · exact f0
    · exact f2
    · exact f3
    · exact f4
    · exact f5
    · exact f6
    · exact f7
  · refine (((M.fr.trans (fr_setCell w3 tB 12 _)).trans M5.rem.fr).trans F).mono ?_
    intro b hb
    rcases hb with ((hb | hb) | hb) | hb
    · rcases hb with h | h | h | h <;> simp [h]
    · simp [hb]
    · rcases hb with h | h <;> simp [h]
    · rcases hb with h | h | h <;> simp [h]
  · rw [f1, M.sho 1 (Or.inl (by omega))]
  · rw [ht, M5.rem.cell tB_v3 tB_z]
    exact sc_same h12
  · exact M5.l3.kept (fun o h1 h2 => hz o h1 h2) (fun _ => hs _ (by simp)) (fun _ => hs _ (by simp)) (fun _ => hs _ (by simp))

/-- .. and the size goes with its last shape. -/
structure DropB1 (w w' : World) (tB z ch sh kb1 vb1 tb1 kb2 vb2 tb2 kb3 vb3 tb3 kb4 vb4 tb4 c1 c2 c3 c4 : Nat) (two : Bool) (ks1 ts1 ks2 ts2 ks3 ts3 ks4 ts4 : List Int) (ps1 ps2 ps3 ps4 : List Nat) : Prop where
  b : DropB w w' tB z ch sh kb1 vb1 tb1 kb2 vb2 tb2 kb3 vb3 tb3 vb4 c1 c2 c3 two ks1 ts1 ks2 ts2 ks3 ts3 ps1 ps2 ps3
  l4 : OrdLeft w' tB 7 kb4 vb4 tb4 (eK ks4 c4) (eK ts4 c4) (eV ps4 c4) (eM ps4.length c4)
  t11 : ∃ a c, w'.cell? ⟨tB, 11, none⟩ = some (.slice a 0 c)
  z1 : w'.cell? ⟨z, 1, none⟩ = w.cell? ⟨z, 1, none⟩
/-- .. and the size keeps a shape. -/
structure DropB2 (w w' : World) (tB z ch sh kb1 vb1 tb1 kb2 vb2 tb2 kb3 vb3 tb3 vb4 c1 c2 c3 : Nat) (two : Bool) (ks1 ts1 ks2 ts2 ks3 ts3 : List Int) (ps1 ps2 ps3 : List Nat) : Prop where
  b : DropB w w' tB z ch sh kb1 vb1 tb1 kb2 vb2 tb2 kb3 vb3 tb3 vb4 c1 c2 c3 two ks1 ts1 ks2 ts2 ks3 ts3 ps1 ps2 ps3
  z1 : w'.cell? ⟨z, 1, none⟩ = some (.int .i64 ((eK ks3 c3).headD 0))
  tb : ∀ o, 7 ≤ o → o ≤ 11 → w'.cell? ⟨tB, o, none⟩ = w.cell? ⟨tB, o, none⟩
  v4 : ∀ o, w'.cell? ⟨vb4, o, none⟩ = w.cell? ⟨vb4, o, none⟩

theorem dropB1_of {w w3 w5 w6 : World} {tB z ch sh kb1 vb1 tb1 kb2 vb2 tb2 kb3 vb3 tb3 kb4 vb4 tb4 c1 c2 c3 c4 : Nat} {two : Bool} {ks1 ts1 ks2 ts2 ks3 ts3 ks4 ts4 : List Int} {ps1 ps2 ps3 ps4 : List Nat} {u : Value} {pa : Option Addr} {pc : Nat}
    (nd : [ch, sh, kb1, vb1, tb1, kb2, vb2, tb2, tB, z, kb3, vb3, tb3, kb4, vb4, tb4].Nodup)
    (M : Mid w w3 ch sh kb1 vb1 tb1 kb2 vb2 tb2 c1 c2 two ks1 ts1 ks2 ts2 ps1 ps2) (h12 : w3.cell? ⟨tB, 12, none⟩ = some u) (hzs : z < w.heap.size)
    (M5 : Mid5 w w3 w5 tB z kb3 vb3 tb3 c3 ks3 ts3 ps3)
    (hl4 : OrdLeft w6 tB 7 kb4 vb4 tb4 (eK ks4 c4) (eK ts4 c4) (eV ps4 c4) (eM ps4.length c4)) (hr4 : Rem w5 w6 tB 7 vb4) (h11 : w6.cell? ⟨tB, 11, none⟩ = some (.slice pa 3 pc)) (q : Nat) :
    DropB1 w ((w6.setCell ⟨tB, 11, none⟩ (.slice pa 0 pc)).drewN q) tB z ch sh kb1 vb1 tb1 kb2 vb2 tb2 kb3 vb3 tb3 kb4 vb4 tb4 c1 c2 c3 c4 two ks1 ts1 ks2 ts2 ks3 ts3 ks4 ts4 ps1 ps2 ps3 ps4 := by
  have sc : ∀ b o, b ≠ tB → ((w6.setCell ⟨tB, 11, none⟩ (.slice pa 0 pc)).drewN q).cell? ⟨b, o, none⟩ = w6.cell? ⟨b, o, none⟩ := fun b o h => sc_other (ne_blk _ _ _ _ (fun e => h e.symm))
  have st : ∀ o, o ≠ 11 → ((w6.setCell ⟨tB, 11, none⟩ (.slice pa 0 pc)).drewN q).cell? ⟨tB, o, none⟩ = w6.cell? ⟨tB, o, none⟩ := fun o h => sc_other (ne_off _ _ _ (fun e => h e.symm))
  have key : ∀ i, i < 16 → i ≠ 8 → i ≠ 14 → ∀ o, ((w6.setCell ⟨tB, 11, none⟩ (.slice pa 0 pc)).drewN q).cell? ⟨[ch, sh, kb1, vb1, tb1, kb2, vb2, tb2, tB, z, kb3, vb3, tb3, kb4, vb4, tb4].getD i 0, o, none⟩ = w5.cell? ⟨[ch, sh, kb1, vb1, tb1, kb2, vb2, tb2, tB, z, kb3, vb3, tb3, kb4, vb4, tb4].getD i 0, o, none⟩ := by
    intro i hi h8 h14 o
    have a := nd2 nd i 8 (by simpa using hi) (by simp) h8
    rw [sc _ _ a]
    exact hr4.cell (nd2 nd i 14 (by simpa using hi) (by simp) h14) a o
  have tB_v4 : tB ≠ vb4 := nd2 nd 8 14 (by simp) (by simp) (by decide)
  have z_tB : z ≠ tB := nd2 nd 9 8 (by simp) (by simp) (by decide)
  have z_v3 : z ≠ vb3 := nd2 nd 9 11 (by simp) (by simp) (by decide)
  have k4_tB : kb4 ≠ tB := nd2 nd 13 8 (by simp) (by simp) (by decide)
  have v4_tB : vb4 ≠ tB := nd2 nd 14 8 (by simp) (by simp) (by decide)
  have t4_tB : tb4 ≠ tB := nd2 nd 15 8 (by simp) (by simp) (by decide)
  have g0 := key 0 (by omega) (by omega) (by omega)
  have g1 := key 1 (by omega) (by omega) (by omega)
  have g2 := key 2 (by omega) (by omega) (by omega)
  have g3 := key 3 (by omega) (by omega) (by omega)
  have g4 := key 4 (by omega) (by omega) (by omega)
  have g5 := key 5 (by omega) (by omega) (by omega)
  have g6 := key 6 (by omega) (by omega) (by omega)
  have g7 := key 7 (by omega) (by omega) (by omega)
  have g9 := key 9 (by omega) (by omega) (by omega)
  have g10 := key 10 (by omega) (by omega) (by omega)
  have g11 := key 11 (by omega) (by omega) (by omega)
  have g12 := key 12 (by omega) (by omega) (by omega)
  simp only [List.getD, List.getElem?_cons_zero, List.getElem?_cons_succ, Option.getD_some] at g0 g1 g2 g3 g4 g5 g6 g7 g9 g10 g11 g12
  refine ⟨dropB_of nd M h12 M5 (((hr4.fr.trans (fr_setCell w6 tB 11 _)).mono (fun b hb => by rcases hb with (h | h) | h <;> simp [h])).drewN q) ?_ (fun o _ _ => g9 o) (fun b hb => ?_), ?_, ⟨pa, pc, sc_same h11⟩, ?_⟩
  · rw [st 12 (by omega)]
    exact hr4.other _ _ tB_v4 (Or.inr (by omega))
  · simp only [List.mem_cons, List.not_mem_nil, or_false] at hb
    rcases hb with rfl | rfl | rfl | rfl | rfl | rfl | rfl | rfl | rfl | rfl | rfl
    · exact g0
    · exact g1
    · exact g2
    · exact g3
    · exact g4
    · exact g5
    · exact g6
    · exact g7
    · exact g10
    · exact g11
    · exact g12
  · exact hl4.kept (fun o h1 h2 => st o (by omega)) (fun _ o => sc _ _ k4_tB) (fun _ o => sc _ _ v4_tB) (fun _ o => sc _ _ t4_tB)
  · rw [g9, M5.rem.other _ _ z_v3 (Or.inr (by omega)), sc_other (ne_blk _ _ _ _ z_tB.symm)]
    refine M.fr.cell z 1 hzs ?_
    intro h
    rcases h with h | h | h | h
    · exact nd2 nd 9 3 (by simp) (by simp) (by decide) h
    · exact nd2 nd 9 6 (by simp) (by simp) (by decide) h
    · exact nd2 nd 9 0 (by simp) (by simp) (by decide) h
    · exact nd2 nd 9 1 (by simp) (by simp) (by decide) h

theorem dropB2_of {w w3 w5 : World} {tB z ch sh kb1 vb1 tb1 kb2 vb2 tb2 kb3 vb3 tb3 kb4 vb4 tb4 c1 c2 c3 : Nat} {two : Bool} {ks1 ts1 ks2 ts2 ks3 ts3 : List Int} {ps1 ps2 ps3 : List Nat} {u u1 : Value}
    (nd : [ch, sh, kb1, vb1, tb1, kb2, vb2, tb2, tB, z, kb3, vb3, tb3, kb4, vb4, tb4].Nodup)
    (M : Mid w w3 ch sh kb1 vb1 tb1 kb2 vb2 tb2 c1 c2 two ks1 ts1 ks2 ts2 ps1 ps2) (h12 : w3.cell? ⟨tB, 12, none⟩ = some u) (hts : tB < w.heap.size) (hvs : vb4 < w.heap.size)
    (M5 : Mid5 w w3 w5 tB z kb3 vb3 tb3 c3 ks3 ts3 ps3) (hz1 : w5.cell? ⟨z, 1, none⟩ = some u1) (q : Nat) :
    DropB2 w ((w5.setCell ⟨z, 1, none⟩ (.int .i64 ((eK ks3 c3).headD 0))).drewN q) tB z ch sh kb1 vb1 tb1 kb2 vb2 tb2 kb3 vb3 tb3 vb4 c1 c2 c3 two ks1 ts1 ks2 ts2 ks3 ts3 ps1 ps2 ps3 := by
  have sc : ∀ b o, b ≠ z → ((w5.setCell ⟨z, 1, none⟩ (.int .i64 ((eK ks3 c3).headD 0))).drewN q).cell? ⟨b, o, none⟩ = w5.cell? ⟨b, o, none⟩ := fun b o h => sc_other (ne_blk _ _ _ _ (fun e => h e.symm))
  have tB_z : tB ≠ z := nd2 nd 8 9 (by simp) (by simp) (by decide)
  have tB_v3 : tB ≠ vb3 := nd2 nd 8 11 (by simp) (by simp) (by decide)
  have v4_z : vb4 ≠ z := nd2 nd 14 9 (by simp) (by simp) (by decide)
  have v4_v3 : vb4 ≠ vb3 := nd2 nd 14 11 (by simp) (by simp) (by decide)
  have v4_tB : vb4 ≠ tB := nd2 nd 14 8 (by simp) (by simp) (by decide)
  refine ⟨dropB_of nd M h12 M5 (((fr_setCell w5 z 1 _).mono (fun b hb => by simp [hb])).drewN q) (sc _ _ tB_z) (fun o h1 _ => sc_other (ne_off _ _ _ (by omega))) (fun b hb o => ?_), sc_same hz1, ?_, ?_⟩
  · refine sc _ _ ?_
    simp only [List.mem_cons, List.not_mem_nil, or_false] at hb
    rcases hb with rfl | rfl | rfl | rfl | rfl | rfl | rfl | rfl | rfl | rfl | rfl
    · exact nd2 nd 0 9 (by simp) (by simp) (by decide)
    · exact nd2 nd 1 9 (by simp) (by simp) (by decide)
    · exact nd2 nd 2 9 (by simp) (by simp) (by decide)
    · exact nd2 nd 3 9 (by simp) (by simp) (by decide)
    · exact nd2 nd 4 9 (by simp) (by simp) (by decide)
    · exact nd2 nd 5 9 (by simp) (by simp) (by decide)
    · exact nd2 nd 6 9 (by simp) (by simp) (by decide)
    · exact nd2 nd 7 9 (by simp) (by simp) (by decide)
    · exact nd2 nd 10 9 (by simp) (by simp) (by decide)
    · exact nd2 nd 11 9 (by simp) (by simp) (by decide)
    · exact nd2 nd 12 9 (by simp) (by simp) (by decide)
  · intro o h1 h2
    rw [sc _ _ tB_z, M5.rem.cell tB_v3 tB_z, sc_other (ne_off _ _ _ (by omega))]
    refine M.fr.cell tB o hts ?_
    intro h
    rcases h with h | h | h | h
    · exact nd2 nd 8 3 (by simp) (by simp) (by decide) h
    · exact nd2 nd 8 6 (by simp) (by simp) (by decide) h
    · exact nd2 nd 8 0 (by simp) (by simp) (by decide) h
    · exact nd2 nd 8 1 (by simp) (by simp) (by decide) h
  · intro o
    rw [sc _ _ v4_z, M5.rem.cell v4_v3 v4_z, sc_other (ne_blk _ _ _ _ v4_tB.symm)]
    refine M.fr.cell vb4 o hvs ?_
    intro h
    rcases h with h | h | h | h
    · exact nd2 nd 14 3 (by simp) (by simp) (by decide) h
    · exact nd2 nd 14 6 (by simp) (by simp) (by decide) h
    · exact nd2 nd 14 0 (by simp) (by simp) (by decide) h
    · exact nd2 nd 14 1 (by simp) (by simp) (by decide) h
end Go.Proofs.Ybulkexnkw
