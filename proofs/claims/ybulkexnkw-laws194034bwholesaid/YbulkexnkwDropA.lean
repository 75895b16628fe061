/-
  dropShaped where the shape keeps a chain.
-/
import Derived.Test.YbulkexnkwDropQ
import Derived.Deep.DeepCutAuto
import Derived.Deep.RegionWith
import Derived.BigRegion
namespace Go.Proofs.Ybulkexnkw
open Go.RowKit

set_option maxRecDepth 20000 in
set_option maxHeartbeats 3200000 in
theorem dropA_any (tB ch sh kb1 vb1 tb1 kb2 vb2 tb2 c1 c2 : Nat) (two : Bool) (x r sz slot : Int) (ks1 ts1 ks2 ts2 : List Int) (ps1 ps2 : List Nat) (w : World)
    (h2l : 2 ≤ ps1.length) (u1 : Value) (hsh1 : w.cell? ⟨sh, 1, none⟩ = some u1)
    (nd : [ch, sh, kb1, vb1, tb1, kb2, vb2, tb2].Nodup)
    (hx1 : -9223372036854775808 ≤ x) (hx2 : x ≤ 9223372036854775807) (hs1 : -9223372036854775808 ≤ slot) (hs2 : slot ≤ 9223372036854775807)
    (hch : ChainAt w ch sh two x r sz slot (away8 ch sh kb1 vb1 tb1 kb2 vb2 tb2)) (fch : ∀ o, w.frozen? ⟨ch, o, none⟩ = false)
    (O1 : OrdAt w sh 2 kb1 vb1 tb1 ks1 ts1 ps1) (S1 : Seat w ks1 ts1 ps1 c1 ch x r)
    (O2 : OrdAt w sh (qOff two) kb2 vb2 tb2 ks2 ts2 ps2) (S2 : Seat w ks2 ts2 ps2 c2 ch r 0) :
    Calls Yba.prog 11 #[.pointer (some ⟨tB, 0, none⟩), .pointer (some ⟨ch, 0, none⟩)] w fun e w' => e = .returned (.tuple #[]) ∧ DropA w w' ch sh kb1 vb1 tb1 kb2 vb2 tb2 c1 c2 two ks1 ts1 ks2 ts2 ps1 ps2 := by
  have h13 := hch.shape
  have h14 := hch.slot
  have ch_sh : ch ≠ sh := nd2 nd 0 1 (by simp) (by simp) (by decide)
  have ch_v1 : ch ≠ vb1 := nd2 nd 0 3 (by simp) (by simp) (by decide)
  have ch_v2 : ch ≠ vb2 := nd2 nd 0 6 (by simp) (by simp) (by decide)
  have HRank : Hid (∀ q, Calls Yba.prog 21 #[.pointer (some ⟨ch, 0, none⟩)] (w.drewN q) fun e w' => e = .returned (.int .i64 r) ∧ ∃ s, (w.drewN q).drewN s = w') := fun q => rank_any ch r (w.drewN q) hch.rank
  have HLast : Hid (∀ q, Calls Yba.prog 24 #[.pointer (some ⟨ch, 0, none⟩)] (w.drewN q) fun e w' => e = .returned (.int .i64 x) ∧ ∃ s, (w.drewN q).drewN s = w') := fun q => lastStart_any ch two x (w.drewN q) hx1 hx2 (hch.last.drewN q)
  have HF1 : Hid (∀ q, Calls Yba.prog 23 #[.pointer (some ⟨sh, 2, none⟩), .int .i64 x, .int .i64 r, .pointer (some ⟨ch, 0, none⟩), .int .i64 slot] (w.drewN q) fun e w' => e = .returned (.int .i64 c1) ∧ ∃ s, (w.drewN q).drewN s = w') := fun q => findC_seat O1 S1 hs1 hs2 q
  have HR1 : Hid (∀ q, Calls Yba.prog 22 #[.pointer (some ⟨sh, 2, none⟩), .int .i64 c1] (w.drewN q) fun e w' => e = .returned (.tuple #[]) ∧ OrdLeft w' sh 2 kb1 vb1 tb1 (eK ks1 c1) (eK ts1 c1) (eV ps1 c1) (eM ps1.length c1) ∧ Rem w w' sh 2 vb1) := fun q => (removeC_any sh 2 kb1 vb1 tb1 ks1 ts1 ps1 c1 (w.drewN q) (O1.drewN q) S1.lt).mono fun e w' ⟨h1, h2, h3⟩ => ⟨h1, h2, h3.undrew⟩
  go_enter Yba.func11, Yba.ntmps11
  go_wp2
  go_quiet ((go_at_call 21; exact quiet_of_reader (HRank.out _)))
  go_upto_region 1 with fail
  go_cut [] (fun wx => OrdLeft wx sh 2 kb1 vb1 tb1 (eK ks1 c1) (eK ts1 c1) (eV ps1 c1) (eM ps1.length c1) ∧ Rem w wx sh 2 vb1)
  case first =>
    go_region_with (first | (go_at_call 24; refine (HLast.out _).mono ?_; rintro e w' ⟨rfl, q, rfl⟩) | (go_at_call 23; refine (HF1.out _).mono ?_; rintro e w' ⟨rfl, q, rfl⟩) | (go_at_call 22; refine (HR1.out _).mono ?_; rintro e w1 ⟨rfl, hl1, hr1⟩))
    all_goals
      go_wp2_with fail
      go_meet
      case rel => exact ⟨hl1, hr1⟩
  case rest =>
    obtain ⟨hl1, hr1⟩ := hcut
    have hl1' : Hid (OrdLeft wc sh 2 kb1 vb1 tb1 (eK ks1 c1) (eK ts1 c1) (eV ps1 c1) (eM ps1.length c1)) := hl1
    have hr1' : Hid (Rem w wc sh 2 vb1) := hr1
    have lst : LastAt wc ch two x := last_kept hch (fun o _ => hr1.cell ch_v1 ch_sh o) (fun b hb o => hr1.cell (fun e => hb (by simp [e])) (fun e => hb (by simp [e])) o)
    have O2c : OrdAt wc sh (qOff two) kb2 vb2 tb2 ks2 ts2 ps2 := by
      have hq : qOff two = 6 ∨ qOff two = 10 := by cases two <;> simp [qOff]
      exact O2.kept (fun o h1 h2 => hr1.other _ _ (nd2 nd 1 3 (by simp) (by simp) (by decide)) (Or.inr (by omega))) (fun o => hr1.cell (nd2 nd 5 3 (by simp) (by simp) (by decide)) (nd2 nd 5 1 (by simp) (by simp) (by decide)) o) (fun o => hr1.cell (nd2 nd 6 3 (by simp) (by simp) (by decide)) (nd2 nd 6 1 (by simp) (by simp) (by decide)) o) (fun o => hr1.cell (nd2 nd 7 3 (by simp) (by simp) (by decide)) (nd2 nd 7 1 (by simp) (by simp) (by decide)) o) hr1.frozen
    have S2c : Seat wc ks2 ts2 ps2 c2 ch r 0 := S2.kept fun j _ h => hr1.obj _ h
    have HIQ : Hid (Calls Yba.prog 25 #[.pointer (some ⟨sh, 0, none⟩), .pointer (some ⟨ch, 0, none⟩)] wc fun e w' => e = .returned (.pointer (some ⟨sh, qOff two, none⟩)) ∧ ∃ q, wc.drewN q = w') := inQueue_any sh ch two x wc lst
    have HF2 : Hid (∀ q, Calls Yba.prog 23 #[.pointer (some ⟨sh, qOff two, none⟩), .int .i64 r, .int .i64 0, .pointer (some ⟨ch, 0, none⟩), .int .i64 (-1)] (wc.drewN q) fun e w' => e = .returned (.int .i64 c2) ∧ ∃ s, (wc.drewN q).drewN s = w') := fun q => findC_seat O2c S2c (by decide) (by decide) q
    have HR2 : Hid (∀ q, Calls Yba.prog 22 #[.pointer (some ⟨sh, qOff two, none⟩), .int .i64 c2] (wc.drewN q) fun e w' => e = .returned (.tuple #[]) ∧ OrdLeft w' sh (qOff two) kb2 vb2 tb2 (eK ks2 c2) (eK ts2 c2) (eV ps2 c2) (eM ps2.length c2) ∧ Rem wc w' sh (qOff two) vb2) := fun q => (removeC_any sh (qOff two) kb2 vb2 tb2 ks2 ts2 ps2 c2 (wc.drewN q) (O2c.drewN q) S2c.lt).mono fun e w' ⟨h1, h2, h3⟩ => ⟨h1, h2, h3.undrew⟩
    clear hl1 hr1
    generalize hqo : qOff two = qo at HIQ HF2 HR2
    have HQO : Hid (qOff two = qo) := hqo
    clear hqo
    go_wp2_with (first | (go_at_call 25; refine HIQ.out.mono ?_; rintro e w' ⟨rfl, q, rfl⟩) | (go_at_call 23; refine (HF2.out _).mono ?_; rintro e w' ⟨rfl, q, rfl⟩) | fail)
    refine (HR2.out _).mono ?_
    rintro e w2 ⟨rfl, hl2, hr2⟩
    rw [← HQO.out] at hl2 hr2
    have M := mid_of nd hl1'.out hr1'.out hl2 hr2 h13
    have c13 : w2.cell? ⟨ch, 13, none⟩ = some (.pointer (some ⟨sh, 0, none⟩)) := by rw [hr2.cell ch_v2 ch_sh, hr1'.out.cell ch_v1 ch_sh]; exact h13
    have f13 : w2.frozen? ⟨ch, 13, none⟩ = false := by rw [hr2.frozen, hr1'.out.frozen]; exact fch 13
    have M' : Hid (Mid w (w2.setCell ⟨ch, 13, none⟩ (.pointer none)) ch sh kb1 vb1 tb1 kb2 vb2 tb2 c1 c2 two ks1 ts1 ks2 ts2 ps1 ps2) := M
    clear M hl2 hr2 HR2 HF2 HIQ O2c S2c lst
    go_upto_region 5 with fail
    clear c13 f13
    generalize w2.setCell ⟨ch, 13, none⟩ (.pointer none) = w3 at M' ⊢
    obtain ⟨vv, hvv, hvw⟩ := M'.out.l1.c1
    obtain ⟨va, vcap, rfl⟩ := hvw.shape
    rw [ptrs_len] at hvv
    clear hvw
    have hlv : ∃ m, (eK ks1 c1).length = m + 1 ∧ (eV ps1 c1).length = m + 1 := by
      have a1 := eV_len ps1 c1 S1.lt
      have a2 := eK_len ks1 ps1.length c1 O1.lk S1.lt
      refine ⟨(eK ks1 c1).length - 1, ?_, ?_⟩ <;> (split at a1 <;> split at a2 <;> omega)
    obtain ⟨m, hlk, hlv⟩ := hlv
    obtain ⟨kv, hkv, hkw⟩ := M'.out.l1.c0
    obtain ⟨ko, kcap, rfl, hklast⟩ := hkw.last hlk
    have s1 : w3.cell? ⟨sh, 1, none⟩ = some u1 := (M'.out.sho 1 (Or.inl (by omega))).trans hsh1
    have sf : w3.frozen? ⟨sh, 1, none⟩ = false := by rw [M'.out.fr.frozen _ _ (lt_of_cell hsh1)]; exact O1.fz 1
    have hne0 : (((eV ps1 c1).length : Int) == 0) = false := by rw [hlv]; simp; omega
    have hm6 : m ≤ 1000000 := by
      have := O1.small
      have a2 := eK_len ks1 ps1.length c1 O1.lk S1.lt
      split at a2 <;> omega
    have HE : Hid (Calls Yba.prog 26 #[.pointer (some ⟨sh, 2, none⟩)] w3 fun e w' => e = .returned (.bool false) ∧ w3 = w') := by
      have h := emptyC_any sh 2 _ _ _ w3 hvv
      rw [hne0] at h
      exact h
    clear hlv hlk hkw hne0
    have HD : Hid (∀ q, DropA w ((w3.setCell ⟨sh, 1, none⟩ (.int .i64 ((eK ks1 c1).getLastD 0))).drewN q) ch sh kb1 vb1 tb1 kb2 vb2 tb2 c1 c2 two ks1 ts1 ks2 ts2 ps1 ps2) := fun q => dropA_of nd M'.out s1 q
    generalize (eK ks1 c1).getLastD 0 = lastk at hklast HD
    have HK : Hid (Calls Yba.prog 27 #[.pointer (some ⟨sh, 2, none⟩)] w3 fun e w' => e = .returned (.int .i64 lastk) ∧ ∃ q, w3.drewN q = w') := lastKey_any sh 2 kb1 ko m kcap lastk w3 hm6 hkv hklast
    go_wp2_with (first | (go_at_call 26; refine HE.out.mono ?_; rintro e w' ⟨rfl, rfl⟩) | (go_at_call 27; refine HK.out.mono ?_; rintro e w' ⟨rfl, q, rfl⟩))
    refine bodyPost_ret (results_none rfl _ _ _) rfl ?_
    exact ⟨rfl, HD.out _⟩
end Go.Proofs.Ybulkexnkw
