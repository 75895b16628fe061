/-
  dropShaped where the shape and its size go.
-/
import Derived.Test.YbulkexnkwDropQ
import Derived.Deep.DeepCutAuto
import Derived.Deep.RegionWith
import Derived.BigRegion
namespace Go.Proofs.Ybulkexnkw
open Go.RowKit
set_option linter.unusedVariables false

set_option maxRecDepth 20000 in
set_option maxHeartbeats 6400000 in
theorem dropB1_any (tB z ch sh kb1 vb1 tb1 kb2 vb2 tb2 kb3 vb3 tb3 kb4 vb4 tb4 c1 c2 c3 c4 pc : Nat) (pa : Option Addr) (two : Bool) (x r sz slot len : Int) (ks1 ts1 ks2 ts2 ks3 ts3 ks4 ts4 : List Int) (ps1 ps2 ps3 ps4 : List Nat) (uB uA : Value) (w : World)
    (h1l : ps1.length = 1) (h3l : ps3.length = 1) (hsh0 : w.cell? ⟨sh, 0, none⟩ = some (.int .i64 len)) (hz1 : w.cell? ⟨z, 1, none⟩ = some uB) (h12 : w.cell? ⟨tB, 12, none⟩ = some uA) (h11 : w.cell? ⟨tB, 11, none⟩ = some (.slice pa 3 pc)) (hpc : 3 ≤ pc)
    (nd16 : [ch, sh, kb1, vb1, tb1, kb2, vb2, tb2, tB, z, kb3, vb3, tb3, kb4, vb4, tb4].Nodup)
    (hx1 : -9223372036854775808 ≤ x) (hx2 : x ≤ 9223372036854775807) (hs1 : -9223372036854775808 ≤ slot) (hs2 : slot ≤ 9223372036854775807)
    (hch : ChainAt w ch sh two x r sz slot (away8 ch sh kb1 vb1 tb1 kb2 vb2 tb2)) (fch : ∀ o, w.frozen? ⟨ch, o, none⟩ = false)
    (O1 : OrdAt w sh 2 kb1 vb1 tb1 ks1 ts1 ps1) (S1 : Seat w ks1 ts1 ps1 c1 ch x r)
    (O2 : OrdAt w sh (qOff two) kb2 vb2 tb2 ks2 ts2 ps2) (S2 : Seat w ks2 ts2 ps2 c2 ch r 0)
    (O3 : OrdAt w z 2 kb3 vb3 tb3 ks3 ts3 ps3) (S3 : Seat w ks3 ts3 ps3 c3 sh len 0) (O4 : OrdAt w tB 7 kb4 vb4 tb4 ks4 ts4 ps4) (S4 : Seat w ks4 ts4 ps4 c4 z sz 0) :
    Calls Yba.prog 11 #[.pointer (some ⟨tB, 0, none⟩), .pointer (some ⟨ch, 0, none⟩)] w fun e w' => e = .returned (.tuple #[]) ∧ DropB1 w w' tB z ch sh kb1 vb1 tb1 kb2 vb2 tb2 kb3 vb3 tb3 kb4 vb4 tb4 c1 c2 c3 c4 two ks1 ts1 ks2 ts2 ks3 ts3 ks4 ts4 ps1 ps2 ps3 ps4 := by
  have nd : [ch, sh, kb1, vb1, tb1, kb2, vb2, tb2].Nodup := nd16.sublist (by simp)
  have h13 := hch.shape
  have h14 := hch.slot
  have ch_sh : ch ≠ sh := nd2 nd 0 1 (by simp) (by simp) (by decide)
  have ch_v1 : ch ≠ vb1 := nd2 nd 0 3 (by simp) (by simp) (by decide)
  have ch_v2 : ch ≠ vb2 := nd2 nd 0 6 (by simp) (by simp) (by decide)
  have HRank : Hid (∀ q, Calls Yba.prog 21 #[.pointer (some ⟨ch, 0, none⟩)] (w.drewN q) fun e w' => e = .returned (.int .i64 r) ∧ ∃ s, (w.drewN q).drewN s = w') := fun q => rank_any ch r (w.drewN q) hch.rank
  have HLast : Hid (∀ q, Calls Yba.prog 24 #[.pointer (some ⟨ch, 0, none⟩)] (w.drewN q) fun e w' => e = .returned (.int .i64 x) ∧ ∃ s, (w.drewN q).drewN s = w') := fun q => lastStart_any ch two x (w.drewN q) hx1 hx2 (hch.last.drewN q)
  have HF1 : Hid (∀ q, Calls Yba.prog 23 #[.pointer (some ⟨sh, 2, none⟩), .int .i64 x, .int .i64 r, .pointer (some ⟨ch, 0, none⟩), .int .i64 slot] (w.drewN q) fun e w' => e = .returned (.int .i64 c1) ∧ ∃ s, (w.drewN q).drewN s = w') := fun q => findC_seat O1 S1 hs1 hs2 q
  have HR1 : Hid (∀ q, Calls Yba.prog 22 #[.pointer (some ⟨sh, 2, none⟩), .int .i64 c1] (w.drewN q) fun e w' => e = .returned (.tuple #[]) ∧ OrdLeft w' sh 2 kb1 vb1 tb1 (eK ks1 c1) (eK ts1 c1) (eV ps1 c1) (eM ps1.length c1) ∧ Rem w w' sh 2 vb1) := fun q => (removeC_any sh 2 kb1 vb1 tb1 ks1 ts1 ps1 c1 (w.drewN q) (O1.drewN q) S1.lt).mono fun e w' ⟨h1, h2, h3⟩ => ⟨h1, h2, h3.undrew⟩
  go_enter Yba.func11, Yba.ntmps11
  go_wp2
  go_quiet ((go_at_call 21; exact quiet_of_reader (HRank.out _)))
  go_upto_region 1 with fail
  go_cut [] (fun wx => OrdLeft wx sh 2 kb1 vb1 tb1 (eK ks1 c1) (eK ts1 c1) (eV ps1 c1) (eM ps1.length c1) ∧ Rem w wx sh 2 vb1)
  case first =>
    go_region_with (first | (go_at_call 24; refine (HLast.out _).mono ?_; rintro e w' ⟨rfl, q, rfl⟩) | (go_at_call 23; refine (HF1.out _).mono ?_; rintro e w' ⟨rfl, q, rfl⟩) | (go_at_call 22; refine (HR1.out _).mono ?_; rintro e w1 ⟨rfl, hl1, hr1⟩))
    all_goals
      go_wp2_with fail
      go_meet
      case rel => exact ⟨hl1, hr1⟩
  case rest =>
    obtain ⟨hl1, hr1⟩ := hcut
    have hl1' : Hid (OrdLeft wc sh 2 kb1 vb1 tb1 (eK ks1 c1) (eK ts1 c1) (eV ps1 c1) (eM ps1.length c1)) := hl1
    have hr1' : Hid (Rem w wc sh 2 vb1) := hr1
    have lst : LastAt wc ch two x := last_kept hch (fun o _ => hr1.cell ch_v1 ch_sh o) (fun b hb o => hr1.cell (fun e => hb (by simp [e])) (fun e => hb (by simp [e])) o)
    have O2c : OrdAt wc sh (qOff two) kb2 vb2 tb2 ks2 ts2 ps2 := by
      have hq : qOff two = 6 ∨ qOff two = 10 := by cases two <;> simp [qOff]
      exact O2.kept (fun o h1 h2 => hr1.other _ _ (nd2 nd 1 3 (by simp) (by simp) (by decide)) (Or.inr (by omega))) (fun o => hr1.cell (nd2 nd 5 3 (by simp) (by simp) (by decide)) (nd2 nd 5 1 (by simp) (by simp) (by decide)) o) (fun o => hr1.cell (nd2 nd 6 3 (by simp) (by simp) (by decide)) (nd2 nd 6 1 (by simp) (by simp) (by decide)) o) (fun o => hr1.cell (nd2 nd 7 3 (by simp) (by simp) (by decide)) (nd2 nd 7 1 (by simp) (by simp) (by decide)) o) hr1.frozen
    have S2c : Seat wc ks2 ts2 ps2 c2 ch r 0 := S2.kept fun j _ h => hr1.obj _ h
    have HIQ : Hid (Calls Yba.prog 25 #[.pointer (some ⟨sh, 0, none⟩), .pointer (some ⟨ch, 0, none⟩)] wc fun e w' => e = .returned (.pointer (some ⟨sh, qOff two, none⟩)) ∧ ∃ q, wc.drewN q = w') := inQueue_any sh ch two x wc lst
    have HF2 : Hid (∀ q, Calls Yba.prog 23 #[.pointer (some ⟨sh, qOff two, none⟩), .int .i64 r, .int .i64 0, .pointer (some ⟨ch, 0, none⟩), .int .i64 (-1)] (wc.drewN q) fun e w' => e = .returned (.int .i64 c2) ∧ ∃ s, (wc.drewN q).drewN s = w') := fun q => findC_seat O2c S2c (by decide) (by decide) q
    have HR2 : Hid (∀ q, Calls Yba.prog 22 #[.pointer (some ⟨sh, qOff two, none⟩), .int .i64 c2] (wc.drewN q) fun e w' => e = .returned (.tuple #[]) ∧ OrdLeft w' sh (qOff two) kb2 vb2 tb2 (eK ks2 c2) (eK ts2 c2) (eV ps2 c2) (eM ps2.length c2) ∧ Rem wc w' sh (qOff two) vb2) := fun q => (removeC_any sh (qOff two) kb2 vb2 tb2 ks2 ts2 ps2 c2 (wc.drewN q) (O2c.drewN q) S2c.lt).mono fun e w' ⟨h1, h2, h3⟩ => ⟨h1, h2, h3.undrew⟩
    clear hl1 hr1
    generalize hqo : qOff two = qo at HIQ HF2 HR2
    have HQO : Hid (qOff two = qo) := hqo
    clear hqo
    go_wp2_with (first | (go_at_call 25; refine HIQ.out.mono ?_; rintro e w' ⟨rfl, q, rfl⟩) | (go_at_call 23; refine (HF2.out _).mono ?_; rintro e w' ⟨rfl, q, rfl⟩) | fail)
    refine (HR2.out _).mono ?_
    rintro e w2 ⟨rfl, hl2, hr2⟩
    rw [← HQO.out] at hl2 hr2
    have M := mid_of nd hl1'.out hr1'.out hl2 hr2 h13
    have c13 : w2.cell? ⟨ch, 13, none⟩ = some (.pointer (some ⟨sh, 0, none⟩)) := by rw [hr2.cell ch_v2 ch_sh, hr1'.out.cell ch_v1 ch_sh]; exact h13
    have f13 : w2.frozen? ⟨ch, 13, none⟩ = false := by rw [hr2.frozen, hr1'.out.frozen]; exact fch 13
    have M' : Hid (Mid w (w2.setCell ⟨ch, 13, none⟩ (.pointer none)) ch sh kb1 vb1 tb1 kb2 vb2 tb2 c1 c2 two ks1 ts1 ks2 ts2 ps1 ps2) := M
    clear M hl2 hr2 HR2 HF2 HIQ O2c S2c lst
    go_upto_region 5 with fail
    clear c13 f13
    generalize w2.setCell ⟨ch, 13, none⟩ (.pointer none) = w3 at M' ⊢
    obtain ⟨vv, hvv, hvw⟩ := M'.out.l1.c1
    obtain ⟨va, vcap, rfl⟩ := hvw.shape
    rw [ptrs_len] at hvv
    clear hvw
    have hE0 : (((eV ps1 c1).length : Int) == 0) = true := by
      have a1 := eV_len ps1 c1 S1.lt
      have := S1.lt
      rw [if_pos (by omega)] at a1
      rw [a1, h1l]; rfl
    have HE : Hid (Calls Yba.prog 26 #[.pointer (some ⟨sh, 2, none⟩)] w3 fun e w' => e = .returned (.bool true) ∧ w3 = w') := by
      have h := emptyC_any sh 2 _ _ _ w3 hvv
      rw [hE0] at h
      exact h
    have Fm := M'.out.fr
    have ntB : ∀ i, i < 16 → i ≠ 0 → i ≠ 1 → i ≠ 3 → i ≠ 6 → ¬ ([ch, sh, kb1, vb1, tb1, kb2, vb2, tb2, tB, z, kb3, vb3, tb3, kb4, vb4, tb4].getD i 0 = vb1 ∨ [ch, sh, kb1, vb1, tb1, kb2, vb2, tb2, tB, z, kb3, vb3, tb3, kb4, vb4, tb4].getD i 0 = vb2 ∨ [ch, sh, kb1, vb1, tb1, kb2, vb2, tb2, tB, z, kb3, vb3, tb3, kb4, vb4, tb4].getD i 0 = ch ∨ [ch, sh, kb1, vb1, tb1, kb2, vb2, tb2, tB, z, kb3, vb3, tb3, kb4, vb4, tb4].getD i 0 = sh) := by
      intro i hi h0 h1 h3 h6 h
      rcases h with h | h | h | h
      · exact nd2 nd16 i 3 (by simpa using hi) (by simp) h3 h
      · exact nd2 nd16 i 6 (by simpa using hi) (by simp) h6 h
      · exact nd2 nd16 i 0 (by simpa using hi) (by simp) h0 h
      · exact nd2 nd16 i 1 (by simpa using hi) (by simp) h1 h
    have tBs : tB < w.heap.size := lt_of_cell h12
    have zs : z < w.heap.size := lt_of_cell hz1
    have k3s : kb3 < w.heap.size := lt_of_row O3.rk (by rw [ints_len, O3.lk]; exact O3.pos)
    have t3s : tb3 < w.heap.size := lt_of_row O3.rt (by rw [ints_len, O3.lt]; exact O3.pos)
    have v3s : vb3 < w.heap.size := lt_of_row O3.rv (by rw [ptrs_len, List.length_map]; exact O3.pos)
    have k4s : kb4 < w.heap.size := lt_of_row O4.rk (by rw [ints_len, O4.lk]; exact O4.pos)
    have t4s : tb4 < w.heap.size := lt_of_row O4.rt (by rw [ints_len, O4.lt]; exact O4.pos)
    have v4s : vb4 < w.heap.size := lt_of_row O4.rv (by rw [ptrs_len, List.length_map]; exact O4.pos)
    have m12 : w3.cell? ⟨tB, 12, none⟩ = some uA := (Fm.cell tB 12 tBs (ntB 8 (by decide) (by decide) (by decide) (by decide) (by decide))).trans h12
    have f12 : w3.frozen? ⟨tB, 12, none⟩ = false := (Fm.frozen tB 12 tBs).trans (O4.fz 12)
    have z_tB : z ≠ tB := nd2 nd16 9 8 (by simp) (by simp) (by decide)
    have rowc : ∀ i, i < 16 → i ≠ 0 → i ≠ 1 → i ≠ 3 → i ≠ 6 → i ≠ 8 → ∀ o, [ch, sh, kb1, vb1, tb1, kb2, vb2, tb2, tB, z, kb3, vb3, tb3, kb4, vb4, tb4].getD i 0 < w.heap.size → (w3.setCell ⟨tB, 12, none⟩ (.slice none 0 0)).cell? ⟨[ch, sh, kb1, vb1, tb1, kb2, vb2, tb2, tB, z, kb3, vb3, tb3, kb4, vb4, tb4].getD i 0, o, none⟩ = w.cell? ⟨[ch, sh, kb1, vb1, tb1, kb2, vb2, tb2, tB, z, kb3, vb3, tb3, kb4, vb4, tb4].getD i 0, o, none⟩ := by
      intro i hi h0 h1 h3 h6 h8 o hs
      have e8 : tB ≠ [ch, sh, kb1, vb1, tb1, kb2, vb2, tb2, tB, z, kb3, vb3, tb3, kb4, vb4, tb4].getD i 0 := nd2 nd16 8 i (by simp) (by simpa using hi) (Ne.symm h8)
      rw [sc_other (ne_blk _ _ _ _ e8)]
      exact Fm.cell _ o hs (ntB i hi h0 h1 h3 h6)
    have tBc : ∀ o, o ≠ 12 → (w3.setCell ⟨tB, 12, none⟩ (.slice none 0 0)).cell? ⟨tB, o, none⟩ = w.cell? ⟨tB, o, none⟩ := by
      intro o ho
      rw [sc_other (ne_off _ _ _ (Ne.symm ho))]
      exact Fm.cell tB o tBs (ntB 8 (by decide) (by decide) (by decide) (by decide) (by decide))
    have frz : ∀ b o, b < w.heap.size → (w3.setCell ⟨tB, 12, none⟩ (.slice none 0 0)).frozen? ⟨b, o, none⟩ = w.frozen? ⟨b, o, none⟩ := fun b o hb => (World.frozen?_setCell ..).trans (Fm.frozen b o hb)
    have O4d : OrdAt (w3.setCell ⟨tB, 12, none⟩ (.slice none 0 0)) tB 7 kb4 vb4 tb4 ks4 ts4 ps4 :=
      O4.kept' (fun o h1 h2 => tBc o (by omega)) (fun o => rowc 13 (by decide) (by decide) (by decide) (by decide) (by decide) (by decide) o k4s) (fun o => rowc 14 (by decide) (by decide) (by decide) (by decide) (by decide) (by decide) o v4s) (fun o => rowc 15 (by decide) (by decide) (by decide) (by decide) (by decide) (by decide) o t4s) (fun o => frz _ _ tBs) (fun o => frz _ _ v4s)
    have O3d : OrdAt (w3.setCell ⟨tB, 12, none⟩ (.slice none 0 0)) z 2 kb3 vb3 tb3 ks3 ts3 ps3 :=
      O3.kept' (fun o h1 h2 => rowc 9 (by decide) (by decide) (by decide) (by decide) (by decide) (by decide) o zs) (fun o => rowc 10 (by decide) (by decide) (by decide) (by decide) (by decide) (by decide) o k3s) (fun o => rowc 11 (by decide) (by decide) (by decide) (by decide) (by decide) (by decide) o v3s) (fun o => rowc 12 (by decide) (by decide) (by decide) (by decide) (by decide) (by decide) o t3s) (fun o => frz _ _ zs) (fun o => frz _ _ v3s)
    have S4d : Seat (w3.setCell ⟨tB, 12, none⟩ (.slice none 0 0)) ks4 ts4 ps4 c4 z sz 0 := S4.kept fun j _ h => obj_setCell (Fm.obj _ h) _ _
    have S3d : Seat (w3.setCell ⟨tB, 12, none⟩ (.slice none 0 0)) ks3 ts3 ps3 c3 sh len 0 := S3.kept fun j _ h => obj_setCell (Fm.obj _ h) _ _
    have tB_ch : tB ≠ ch := nd2 nd16 8 0 (by simp) (by simp) (by decide)
    have tB_sh : tB ≠ sh := nd2 nd16 8 1 (by simp) (by simp) (by decide)
    have ch3 : (w3.setCell ⟨tB, 12, none⟩ (.slice none 0 0)).cell? ⟨ch, 3, none⟩ = some (.int .i64 sz) := by
      rw [sc_other (ne_blk _ _ _ _ tB_ch), M'.out.cho 3 (by omega)]; exact hch.size
    have sh0 : (w3.setCell ⟨tB, 12, none⟩ (.slice none 0 0)).cell? ⟨sh, 0, none⟩ = some (.int .i64 len) := by
      rw [sc_other (ne_blk _ _ _ _ tB_sh), M'.out.sho 0 (Or.inl (by omega))]; exact hsh0
    have z1d : (w3.setCell ⟨tB, 12, none⟩ (.slice none 0 0)).cell? ⟨z, 1, none⟩ = some uB := (rowc 9 (by decide) (by decide) (by decide) (by decide) (by decide) (by decide) 1 zs).trans hz1
    have t11d := (tBc 11 (by omega)).trans h11
    obtain ⟨vc4, hvc4, c8⟩ := O4d.c1
    have hval : (w3.setCell ⟨tB, 12, none⟩ (.slice none 0 0)).cell? ⟨vb4, c4, none⟩ = some (.pointer (some ⟨z, 0, none⟩)) := by
      have := O4d.val S4.lt
      rw [S4.at_] at this; exact this
    have hc4 : c4 < ps4.length := S4.lt
    have hp4 : ps4.length ≤ 5000 := O4.small
    have ftB : (w3.setCell ⟨tB, 12, none⟩ (.slice none 0 0)).frozen? ⟨tB, 11, none⟩ = false := (frz tB 11 tBs).trans (O4.fz 11)
    have fz1 : (w3.setCell ⟨tB, 12, none⟩ (.slice none 0 0)).frozen? ⟨z, 1, none⟩ = false := (frz z 1 zs).trans (O3.fz 1)
    have W3' : Hid (w3.cell? ⟨tB, 12, none⟩ = some uA) := m12
    go_upto_region 8 with (go_at_call 26; refine HE.out.mono ?_; rintro e w' ⟨rfl, rfl⟩)
    clear m12 f12 rowc tBc frz Fm ntB
    generalize hw4 : w3.setCell ⟨tB, 12, none⟩ (.slice none 0 0) = w4 at O4d O3d S4d S3d ch3 sh0 z1d t11d c8 hval ftB fz1 ⊢
    have HW4 : Hid (w3.setCell ⟨tB, 12, none⟩ (.slice none 0 0) = w4) := hw4
    clear hw4
    have HSZ : Hid (∀ q, Calls Yba.prog 29 #[.pointer (some ⟨ch, 0, none⟩)] (w4.drewN q) fun e w' => e = .returned (.int .i64 sz) ∧ ∃ s, (w4.drewN q).drewN s = w') := fun q => size_any ch sz (w4.drewN q) ch3
    have HPL : Hid (∀ q, Calls Yba.prog 28 #[.pointer (some ⟨tB, 7, none⟩), .int .i64 sz, .int .i64 0] (w4.drewN q) fun e w' => e = .returned (.int .i64 c4) ∧ ∃ s, (w4.drewN q).drewN s = w') := fun q => placeZ_seat O4d S4d q
    have HF3 : Hid (∀ q, Calls Yba.prog 31 #[.pointer (some ⟨z, 2, none⟩), .int .i64 len, .int .i64 0, .pointer (some ⟨sh, 0, none⟩), .int .i64 (-1)] (w4.drewN q) fun e w' => e = .returned (.int .i64 c3) ∧ ∃ s, (w4.drewN q).drewN s = w') := fun q => findS_seat O3d S3d (by decide) (by decide) q
    have HR3 : Hid (∀ q, Calls Yba.prog 30 #[.pointer (some ⟨z, 2, none⟩), .int .i64 c3] (w4.drewN q) fun e w' => e = .returned (.tuple #[]) ∧ OrdLeft w' z 2 kb3 vb3 tb3 (eK ks3 c3) (eK ts3 c3) (eV ps3 c3) (eM ps3.length c3) ∧ Rem w4 w' z 2 vb3) := fun q => (removeS_any z 2 kb3 vb3 tb3 ks3 ts3 ps3 c3 (w4.drewN q) (O3d.drewN q) S3d.lt).mono fun e w' ⟨h1, h2, h3⟩ => ⟨h1, h2, h3.undrew⟩
    go_quiet (first | (go_at_call 29; exact quiet_of_reader (HSZ.out _)) | (go_at_call 28; exact quiet_of_reader (HPL.out _)))
    go_upto_region 10 with fail
    go_cut [] (fun wx => OrdLeft wx z 2 kb3 vb3 tb3 (eK ks3 c3) (eK ts3 c3) (eV ps3 c3) (eM ps3.length c3) ∧ Rem w4 wx z 2 vb3)
    case first =>
      go_region_with (first | (go_at_call 31; refine (HF3.out _).mono ?_; rintro e w' ⟨rfl, q, rfl⟩) | (go_at_call 30; refine (HR3.out _).mono ?_; rintro e w1 ⟨rfl, hl3, hr3⟩))
      all_goals
        go_wp2_with fail
        go_meet
        case rel => exact ⟨hl3, hr3⟩
    case rest =>
      obtain ⟨hl3, hr3⟩ := hcut
      rename World => w5
      have M5 : Hid (Mid5 w w3 w5 tB z kb3 vb3 tb3 c3 ks3 ts3 ps3) := ⟨hl3, by rw [HW4.out]; exact hr3⟩
      obtain ⟨vv3, hvv3, hvw3⟩ := hl3.c1
      obtain ⟨va3, vcap3, rfl⟩ := hvw3.shape
      rw [ptrs_len] at hvv3
      have tB_z : tB ≠ z := nd2 nd16 8 9 (by simp) (by simp) (by decide)
      have tB_v3 : tB ≠ vb3 := nd2 nd16 8 11 (by simp) (by simp) (by decide)
      have z_v3 : z ≠ vb3 := nd2 nd16 9 11 (by simp) (by simp) (by decide)
      have a3 := eV_len ps3 c3 S3.lt
      have a3k := eK_len ks3 ps3.length c3 O3.lk S3.lt
      have hE3 : (((eV ps3 c3).length : Int) == 0) = true := by
        have := S3.lt
        rw [if_pos (by omega)] at a3
        rw [a3, h3l]; rfl
      have HE3 : Hid (Calls Yba.prog 32 #[.pointer (some ⟨z, 2, none⟩)] w5 fun e w' => e = .returned (.bool true) ∧ w5 = w') := by
        have h := emptyS_any z 2 _ _ _ w5 hvv3
        rw [hE3] at h
        exact h
      have O4e : OrdAt w5 tB 7 kb4 vb4 tb4 ks4 ts4 ps4 := O4d.kept (fun o _ _ => hr3.cell tB_v3 tB_z o) (fun o => hr3.cell (nd2 nd16 13 11 (by simp) (by simp) (by decide)) (nd2 nd16 13 9 (by simp) (by simp) (by decide)) o) (fun o => hr3.cell (nd2 nd16 14 11 (by simp) (by simp) (by decide)) (nd2 nd16 14 9 (by simp) (by simp) (by decide)) o) (fun o => hr3.cell (nd2 nd16 15 11 (by simp) (by simp) (by decide)) (nd2 nd16 15 9 (by simp) (by simp) (by decide)) o) hr3.frozen
      have t11e : w5.cell? ⟨tB, 11, none⟩ = some (.slice pa 3 pc) := (hr3.cell tB_v3 tB_z 11).trans t11d
      have f11e : w5.frozen? ⟨tB, 11, none⟩ = false := (hr3.frozen _).trans ftB
      have HR4 : Hid (∀ q, Calls Yba.prog 33 #[.pointer (some ⟨tB, 7, none⟩), .int .i64 c4] (w5.drewN q) fun e w' => e = .returned (.tuple #[]) ∧ OrdLeft w' tB 7 kb4 vb4 tb4 (eK ks4 c4) (eK ts4 c4) (eV ps4 c4) (eM ps4.length c4) ∧ Rem w5 w' tB 7 vb4) := fun q => (removeZ_any tB 7 kb4 vb4 tb4 ks4 ts4 ps4 c4 (w5.drewN q) (O4e.drewN q) S4.lt).mono fun e w' ⟨h1, h2, h3⟩ => ⟨h1, h2, h3.undrew⟩
      clear hl3 hr3 hvv3 hvw3 hE3 a3 a3k
      go_wp2_with (first | (go_at_call 32; refine HE3.out.mono ?_; rintro e w' ⟨rfl, rfl⟩) | fail)
      refine (HR4.out 0).mono ?_
      rintro e w6 ⟨rfl, hl4, hr4⟩
      have t11f : w6.cell? ⟨tB, 11, none⟩ = some (.slice pa 3 pc) := (hr4.other _ _ (nd2 nd16 8 14 (by simp) (by simp) (by decide)) (Or.inr (by omega))).trans t11e
      have f11f : w6.frozen? ⟨tB, 11, none⟩ = false := (hr4.frozen _).trans f11e
      have HD : Hid (∀ q, DropB1 w ((w6.setCell ⟨tB, 11, none⟩ (.slice pa 0 pc)).drewN q) tB z ch sh kb1 vb1 tb1 kb2 vb2 tb2 kb3 vb3 tb3 kb4 vb4 tb4 c1 c2 c3 c4 two ks1 ts1 ks2 ts2 ks3 ts3 ks4 ts4 ps1 ps2 ps3 ps4) := fun q => dropB1_of nd16 M'.out W3'.out zs M5.out hl4 hr4 t11f q
      clear hl4 hr4
      go_wp2
      refine bodyPost_ret (results_none rfl _ _ _) rfl ?_
      exact ⟨rfl, HD.out 0⟩
end Go.Proofs.Ybulkexnkw
