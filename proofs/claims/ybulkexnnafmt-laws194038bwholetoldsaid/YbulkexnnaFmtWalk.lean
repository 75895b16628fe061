/-
  The law's walk (3).
-/
import Derived.Test.YbulkexnnaFmtParts
import Derived.Deep.DeepCutAuto
namespace Go.Proofs.YbulkexnnaFmt
open Go.RowKit Go.Kit Go.Extern.Stop Go.Stop Go.Extern

set_option maxHeartbeats 400000 in
theorem law_long (lead : Int) (hex mapped : Bool) (ad : Option Addr) (len cap : Nat) (w : World) (h : 1048576 < len) :
    Calls Ybaf.prog 3 #[.int .u8 lead, .bool hex, .slice ad len cap, .bool mapped] w fun e w' => e = .returned (.bool true) ∧ Below w.heap.size w w' := by
  go_enter Ybaf.func3, Ybaf.ntmps3
  go_wp2
  go_ret
  exact ⟨rfl, Below.refl _ _⟩

theorem owns_step {w : World} {base g n cap : Nat} {xs ys : List Int} {x y : Int} (h : ys = xs ++ [x]) (hy : y = x) (ho : w.ownsRow base 5 1 (.slice (some ⟨g, 0, none⟩) (n + 1) cap) (n + 1) (xs.map (Value.int .u8) ++ [.int .u8 y])) :
    w.ownsRow base 5 1 (.slice (some ⟨g, 0, none⟩) (n + 1) cap) (n + 1) (ys.map (Value.int .u8)) := by
  subst hy; rw [h, List.map_append]; exact ho

set_option maxRecDepth 20000 in
set_option maxHeartbeats 4000000 in
theorem law_short (F : Interp) (lead : Int) (hex mapped : Bool) (ad : Option Addr) (b off len cap : Nat) (zs : List Int) (w : World) (hF : F.told.answers w.tape) (hlen : len ≤ 1048576) (hz : zs.length = len) (hlead : 0 ≤ lead ∧ lead ≤ 255) (hzr : ∀ x ∈ zs, 0 ≤ x ∧ x ≤ 255)
    (hb : 0 < len → b < w.heap.size) (hc : ∀ k, k < len → ad = some ⟨b, off, none⟩ ∧ w.cell? ⟨b, off + k, none⟩ = some (.int .u8 (zs.getD k 0))) :
    Calls Ybaf.prog 3 #[.int .u8 lead, .bool hex, .slice ad len cap, .bool mapped] w fun e w' => e = .returned (.bool true) ∧ Below w.heap.size w w' := by
  obtain ⟨i0, hi, hz0, hz1, hz2⟩ := info_parts Ybaf.info5
  have HC : Hid (∀ k, k < len → ad = some ⟨b, off, none⟩ ∧ w.cell? ⟨b, off + k, none⟩ = some (.int .u8 (zs.getD k 0))) := hc
  have HB : Hid (0 < len → b < w.heap.size) := hb
  have HZ : Hid (zs.length = len) := hz
  clear hc hz hb
  obtain ⟨p, hp⟩ : ∃ p, p = (preOf lead hex).length := ⟨_, rfl⟩
  have HP : Hid (p = (preOf lead hex).length) := hp
  have hp1 : 1 ≤ p := by rw [hp]; exact (preOf_len lead hex).1
  have hp2 : p ≤ 2 := by rw [hp]; exact (preOf_len lead hex).2
  clear hp
  go_enter Ybaf.func3, Ybaf.ntmps3
  go_upto_if 33 with (first
    | (refine wpList_make_own _ rfl _ _ 22 rfl w.heap.size 5 i0 (.int .u8 0) 1 Ybaf.underlying22 hi hz0 hz1 _ _ _ (len + 2) rfl rfl (by omega) (by rw [hz2]; omega) (by unfold maxLen; omega) (Nat.le_refl _) ?_; intro w1 hown1 hgrow1)
    | (at_builtin; refine wpList_append_fits _ rfl (.tmp 29) (.tmp 31) 22 rfl w.heap.size 5 i0 1 Ybaf.underlying22 hi hz1 w.heap.size 0 (len + 2) [] rfl (hown1.alloc _) ⟨w1.heap.size, 0, none⟩ 1 1 [.int .u8 lead] rfl rfl (cell_one_new _ _ _) (by intro u hu; simp at hu; subst hu; rfl) (by omega) ?_; intro w2 hown2 hgrow2))
  have hB2 : Below w.heap.size w w2 := (((Below.refl _ w).grown hgrow1 (Nat.le_refl _) (by intro k h; cases h)).alloc (by have := hgrow1.size; omega) _).grown hgrow2 (by have := hgrow1.size; simp; omega) (by intro k h; cases h; exact Nat.le_refl _)
  simp only [Nat.zero_add, List.nil_append] at hown2
  clear hgrow1 hgrow2 hown1
  go_cut [9] (fun s9 wx => s9 = .slice (some ⟨w.heap.size, 0, none⟩) p (len + 2) ∧ wx.ownsRow w.heap.size 5 1 (.slice (some ⟨w.heap.size, 0, none⟩) p (len + 2)) p ((preOf lead hex).map (Value.int .u8)) ∧ Below w.heap.size w wx)
  case first =>
    cases hex
    · have hp0 : p = 1 := HP.out
      go_wp2
      go_meet
      case rel => exact ⟨by rw [hp0], by rw [hp0]; exact hown2, hB2⟩
    · have hp0 : p = 2 := HP.out
      have HP0 : Hid (p = 2) := hp0
      clear hp0
      go_wp2_with (at_builtin; refine wpList_append_fits _ rfl (.tmp 34) (.tmp 35) 22 rfl w.heap.size 5 i0 1 Ybaf.underlying22 hi hz1 w.heap.size 1 (len + 2) [.int .u8 lead] rfl (hown2.alloc _) ⟨w2.heap.size, 0, none⟩ 1 1 [.int .u8 120] rfl rfl (cell_one_new _ _ _) (by intro u hu; simp at hu; subst hu; rfl) (by omega) ?_; intro w3 hown3 hgrow3)
      have hB3 := (hB2.alloc (by have := hB2.size; omega) (.cells #[.int .u8 120] 5)).grown hgrow3 (by have := hB2.size; simp; omega) (by intro k h; cases h; exact Nat.le_refl _)
      go_meet
      case rel => exact ⟨by rw [HP0.out], by rw [HP0.out]; exact hown3, hB3⟩
  case rest =>
    obtain ⟨rfl, hown, hB⟩ := hcut
    go_wp2
    go_loopw [9, 39] (fun v i wr => ∃ k : Nat, k ≤ len ∧ i = .int .i64 k ∧ v = .slice (some ⟨w.heap.size, 0, none⟩) (p + k) (len + 2) ∧
        wr.ownsRow w.heap.size 5 1 (.slice (some ⟨w.heap.size, 0, none⟩) (p + k) (len + 2)) (p + k) ((refL lead hex mapped zs k).map (Value.int .u8)) ∧ Below w.heap.size w wr) (fun _ i _ => len - (intOf i).toNat)
    case atStart => exact ⟨0, Nat.zero_le _, rfl, rfl, by rw [refL_zero]; exact hown, hB⟩
    case round =>
      clear hown hB
      obtain ⟨k, hk, rfl, rfl, hown, hB⟩ := hrel
      by_cases hlt : k < len
      · obtain ⟨c, had, hcc, HG⟩ : ∃ c : Int, ad = some ⟨b, off, none⟩ ∧ w.cell? ⟨b, off + k, none⟩ = some (.int .u8 c) ∧ Hid (zs.getD k 0 = c) := ⟨_, (HC.out k hlt).1, (HC.out k hlt).2, rfl⟩
        have hb : b < w.heap.size := HB.out (by omega)
        subst had
        have hcr : wr.cell? ⟨b, off + k, none⟩ = some (.int .u8 c) := (hB.cell (p := ⟨b, off + k, none⟩) hb).trans hcc
        have hc0 : 0 ≤ c := by rw [← HG.out]; exact (getD_range zs hzr k).1
        have hc9 : c ≤ 255 := by rw [← HG.out]; exact (getD_range zs hzr k).2
        have HS : Hid (refL lead hex mapped zs (k + 1) = refL lead hex mapped zs k ++ [mp mapped c]) := refL_succ lead hex mapped zs k (by rw [HZ.out]; exact hlt) c HG.out
        obtain ⟨y, hy⟩ : ∃ y, y = mp mapped c := ⟨_, rfl⟩
        have HY : Hid (y = mp mapped c) := hy
        clear hcc
        cases mapped
        · have hyc : y = c := hy
          subst hyc
          clear hy
          go_wp2_with (at_builtin; refine wpList_append_fits _ rfl (.tmp 48) (.tmp 50) 22 rfl w.heap.size 5 i0 1 Ybaf.underlying22 hi hz1 w.heap.size (p + k) (len + 2) _ rfl (hown.alloc _) ⟨wr.heap.size, 0, none⟩ 1 1 [.int .u8 y] rfl rfl (cell_one_new _ _ _) (by intro u hu; simp at hu; subst hu; rfl) (by omega) ?_; intro w3 hown3 hgrow3)
          have hB3 := (hB.alloc (by have := hB.size; omega) (.cells #[.int .u8 y] 5)).grown hgrow3 (by have := hB.size; simp; omega) (by intro k h; cases h; exact Nat.le_refl _)
          go_roundw
          case rel => exact ⟨k + 1, by omega, by go_num, rfl, owns_step HS.out HY.out hown3, hB3⟩
          case measure => simp [intOf]; omega
        · obtain ⟨j, hj⟩ : ∃ j : Nat, c % 26 = (j : Int) := ⟨(c % 26).toNat, by omega⟩
          have hj26 : j < 26 := by omega
          have htb := tb_at j hj26
          have hyc : y = tb j := by rw [hy]; show tb (c % 26).toNat = _; rw [hj]; rfl
          have HJ : Hid (y = tb j) := hyc
          clear hyc hy
          go_wp2_with (at_builtin; refine wpList_append_fits _ rfl (.tmp 48) (.tmp 50) 22 rfl w.heap.size 5 i0 1 Ybaf.underlying22 hi hz1 w.heap.size (p + k) (len + 2) _ rfl (hown.alloc _) ⟨wr.heap.size, 0, none⟩ 1 1 [.int .u8 (tb j)] rfl rfl (cell_one_new _ _ _) (by intro u hu; simp at hu; subst hu; rfl) (by omega) ?_; intro w3 hown3 hgrow3)
          have hB3 := (hB.alloc (by have := hB.size; omega) (.cells #[.int .u8 (tb j)] 5)).grown hgrow3 (by have := hB.size; simp; omega) (by intro k h; cases h; exact Nat.le_refl _)
          go_roundw
          case rel => exact ⟨k + 1, by omega, by go_num, rfl, owns_step HS.out (HJ.out.symm.trans HY.out) hown3, hB3⟩
          case measure => simp [intOf]; omega
      · have hkl : k = len := by omega
        subst hkl
        clear hlt hk
        obtain ⟨xs, hxs⟩ : ∃ xs, refL lead hex mapped zs k = xs := ⟨_, rfl⟩
        have hxl : xs.length = p + k := by rw [← hxs, refL_len _ _ _ _ _ (by rw [HZ.out]; exact Nat.le_refl _), HP.out]
        have hxr : ∀ i, 0 ≤ xs.getD i 0 ∧ xs.getD i 0 ≤ 255 := by rw [← hxs]; exact refL_range lead hex mapped zs k hlead hzr
        rw [hxs] at hown
        clear hxs
        have HXL : Hid (xs.length = p + k) := hxl
        have HXR : Hid (∀ i, 0 ≤ xs.getD i 0 ∧ xs.getD i 0 ≤ 255) := hxr
        clear hxl hxr
        obtain ⟨n, hn⟩ : ∃ n, p + k = n := ⟨_, rfl⟩
        have hn1 : 1 ≤ n := by omega
        have hn2 : n ≤ k + 2 := by omega
        rw [hn] at HXL hown
        have hn' : Hid (n = p + k) := hn.symm
        have hrow : Row wr w.heap.size n xs := row_of_owns hown
        have hBlt : w.heap.size < wr.heap.size := owns_lt hown
        go_upto_region 15 with (refine wpList_make_full _ rfl (.tmp 54) (.tmp 54) 22 rfl (wr.heap.size) 5 i0 (.int .u8 0) 1 Ybaf.underlying22 hi hz0 hz1 _ _ _ _ n rfl rfl (by omega) (by omega) (by rw [hz2]; omega) (by unfold maxLen; omega) (Nat.le_refl _) ?_; intro w1 hown1 hgrow1)
        have hblk := block_of_owns hown1
        have hZl := hown1.1
        have hb1lt : wr.heap.size < w1.heap.size := owns_lt hown1
        generalize (madeCells (Value.int IntKind.u8 0).cells (n * 1)).toList = Z at hblk hZl
        have hBr : Below wr.heap.size wr w1 := (Below.refl _ wr).grown hgrow1 (Nat.le_refl _) (by intro k h; cases h)
        have hrow1 : Row w1 w.heap.size n xs := row_kept hrow hBr hBlt
        have HBLK : Hid (w1.heap[wr.heap.size]? = some (.cells Z.toArray 5 (0, 0))) := hblk
        have HZL : Hid (Z.length = n * 1) := hZl
        clear hown1 hgrow1 hblk hZl hown hrow
        go_upto_region 16 with (refine wpList_copy_splice rfl (.tmp 56) (.tmp 57) 22 22 rfl 5 Ybaf.underlying22 Ybaf.size5 _ _ _ _ _ _ rfl rfl wr.heap.size 0 Z 5 HBLK.out (xs.map (Value.int .u8)) (by rw [List.length_map, HXL.out]; simp) (fun _ => ⟨rfl, _, rfl, row_cells HXL.out hrow1⟩) (by rw [List.length_map, HXL.out, HZL.out]; omega) (ints_one xs) wr.heap.size w1 (Below.refl _ _) (Nat.le_refl _) ?_; intro w3 HG3 hB3)
        have hrowB : Row w3 wr.heap.size n xs := row_of_block HXL.out (by rw [HG3.out, splice_all _ _ (by rw [List.length_map, HXL.out, HZL.out]; omega)])
        have hrowA : Row w3 w.heap.size n xs := row_kept hrow1 hB3 hBlt
        have hBw3 : Below w.heap.size w w3 := (hB.trans (hBr.mono hB.size)).trans (hB3.mono hB.size)
        have hs3 : w1.heap.size ≤ w3.heap.size := hB3.size
        have hF3 : F.told.answers w3.tape := by rw [hBw3.tape]; exact hF
        clear HG3 hrow1 hBr hB
        go_upto_if 67 with (first
          | (go_at_call 4; refine (charRef_any F w.heap.size n (k + 2) xs _ hF3 HXL.out hrowA hn1 (by omega) hn2 (by omega) (by omega) HXR.out).mono ?_; rintro e w4 ⟨r, m, rfl, HFit, hB4⟩)
          | (go_at_call 5; refine (equal_same wr.heap.size w.heap.size n n (k + 2) xs _ HXL.out (row_below hrowB hB4 (by omega)) (row_below hrowA hB4 (by omega))).mono ?_; rintro e w' ⟨rfl, rfl⟩))
        have hrow4 : Row w4 wr.heap.size n xs := row_below hrowB hB4 (by omega)
        have hBw4 : Below w.heap.size w w4 := hBw3.trans (hB4.mono (by omega))
        clear hrowA hrowB hF3 hB4 hBw3 hs3 hB3 hn hb1lt hBlt
        have HN : Hid (n ≤ k + 2) := hn2
        by_cases e1 : n = 1
        · have HSP : Hid (specOf xs = none) := spec_one (by rw [HXL.out, e1])
          obtain ⟨q1, q2⟩ := fits_none HFit.out HSP.out
          subst e1
          go_wp2
          refine wp_loop_rounds 1 ?_
          rw [rounds_succ]
          go_wp2
          go_ret
          exact ⟨rfl, hBw4⟩
        · by_cases hx : xs.getD 1 0 = 120
          · have hc1 := hrow4 1 (by omega)
            rw [hx] at hc1
            by_cases e2 : n = 2
            · have HSP : Hid (specOf xs = none) := spec_two (by rw [HXL.out, e2]) hx
              obtain ⟨q1, q2⟩ := fits_none HFit.out HSP.out
              subst e2
              clear hx
              go_wp2
              refine wp_loop_rounds 1 ?_
              rw [rounds_succ]
              go_wp2
              go_ret
              exact ⟨rfl, hBw4⟩
            · obtain ⟨d, rfl⟩ : ∃ d, n = d + 2 := ⟨n - 2, by omega⟩
              have hd0 : 0 < d := by omega
              have HSP : Hid (specOf xs = answer 16 (xs.drop 2)) := spec_hex (by rw [HXL.out]; omega) hx
              have HDL : Hid ((xs.drop 2).length = d) := by
                show _ = _
                rw [List.length_drop, HXL.out]; omega
              have HCS : Hid (∀ j, j < d → ∃ c : Int, w4.cell? ⟨wr.heap.size, 2 + j, none⟩ = some (.int .u8 c) ∧ 0 ≤ c ∧ c ≤ 255 ∧ Hid ((xs.drop 2).getD j 0 = c)) := fun j hj =>
                ⟨_, hrow4 (2 + j) (by omega), (HXR.out _).1, (HXR.out _).2, getD_drop xs 2 j⟩
              generalize hdd : xs.drop 2 = ds at HSP HDL HCS
              clear hdd hrow4
              clear hx
              go_wp2
              go_loop [17, 18, 86] (fun g v i => ∃ (j : Nat) (x : Int), j ≤ d ∧ i = .int .i64 j ∧ v = .int .i64 x ∧ g = .bool true ∧ 0 ≤ x ∧ x ≤ 1114111 ∧ Hid (scan 16 ds 0 = scan 16 (ds.drop j) x)) (fun _ _ i => d - (intOf i).toNat)
              case atStart => exact ⟨0, 0, Nat.zero_le _, rfl, rfl, rfl, by omega, by omega, rfl⟩
              case round =>
                obtain ⟨j, x, hj, rfl, rfl, rfl, hx0, hx1, HS⟩ := hrel
                by_cases hlt : j < d
                · obtain ⟨c, hcc, hc0, hc9, HG⟩ := HCS.out j hlt
                  have hd9 := dv_le c
                  by_cases hdv : dv c < 16
                  · obtain ⟨y, hy⟩ : ∃ y, zd c 16 = y := ⟨_, rfl⟩
                    have hyd : y = dv c := by rw [← hy]; exact zd_good hdv
                    have hy0 : 0 ≤ y := by omega
                    have hy9 : y ≤ 16 := by omega
                    have HYD : Hid (y = dv c) := hyd
                    clear hyd
                    by_cases hov : 1114111 < x * 16 + dv c
                    · have hov' : 1114111 < x * 16 + y := by rw [HYD.out]; exact hov
                      have HE := ans_over 16 ds j x c (by rw [HDL.out]; exact hlt) HS.out HG.out hdv hov
                      obtain ⟨q1, q2⟩ := fits_none HFit.out (HSP.out.trans HE)
                      clear HE hov
                      go_wp2_with (go_at_call 6; refine (zdig_any _ _ _ (by decide)).mono ?_; rintro e w' ⟨rfl, rfl⟩)
                      go_ret
                      exact ⟨rfl, hBw4⟩
                    · have hov' : ¬ 1114111 < x * 16 + y := by rw [HYD.out]; exact hov
                      have HE : Hid (scan 16 ds 0 = scan 16 (ds.drop (j + 1)) (x * 16 + y)) := by
                        show _ = _
                        rw [HYD.out]; exact scan_step 16 ds j x c (by rw [HDL.out]; exact hlt) HS.out HG.out hdv hov
                      clear hov
                      go_wp2_with (go_at_call 6; refine (zdig_any _ _ _ (by decide)).mono ?_; rintro e w' ⟨rfl, rfl⟩)
                      go_round
                      case rel =>
                        refine ⟨trivial, ?_⟩
                        repeat apply Exists.intro
                        exact ⟨⟨j + 1, x * 16 + y, by omega, by go_num, rfl, rfl, by omega, by omega, HE⟩, rfl⟩
                      case measure => simp [intOf]; omega
                  · have hy : zd c 16 = -1 := zd_bad hdv
                    have HE := ans_bad 16 ds j x c (by rw [HDL.out]; exact hlt) HS.out HG.out hdv
                    obtain ⟨q1, q2⟩ := fits_none HFit.out (HSP.out.trans HE)
                    clear HE
                    go_wp2_with (go_at_call 6; refine (zdig_any _ _ _ (by decide)).mono ?_; rintro e w' ⟨rfl, rfl⟩)
                    go_ret
                    exact ⟨rfl, hBw4⟩
                · have HE := ans_end 16 ds j x (by rw [HDL.out]; exact hd0) (by rw [HDL.out]; omega) HS.out
                  by_cases hch : chB x = true
                  · rw [if_pos hch] at HE
                    obtain ⟨q1, q2⟩ := fits_some HFit.out (HSP.out.trans HE)
                    subst q2
                    clear HE
                    go_wp2_with (go_at_call 7; refine (ischar_any _ _).mono ?_; rintro e w' ⟨rfl, rfl⟩)
                    go_ret
                    exact ⟨rfl, hBw4⟩
                  · rw [if_neg hch] at HE
                    have hcf : chB x = false := by simpa using hch
                    obtain ⟨q1, q2⟩ := fits_none HFit.out (HSP.out.trans HE)
                    clear HE hch
                    go_wp2_with (go_at_call 7; refine (ischar_any _ _).mono ?_; rintro e w' ⟨rfl, rfl⟩)
                    go_ret
                    exact ⟨rfl, hBw4⟩
          · obtain ⟨x1, hc1, hx1⟩ : ∃ x1 : Int, w4.cell? ⟨wr.heap.size, 1, none⟩ = some (.int .u8 x1) ∧ (x1 == 120) = false := ⟨_, hrow4 1 (by omega), by simpa using hx⟩
            obtain ⟨d, rfl⟩ : ∃ d, n = d + 1 := ⟨n - 1, by omega⟩
            have hd0 : 0 < d := by omega
            have HSP : Hid (specOf xs = answer 10 (xs.drop 1)) := spec_dec hx
            have HDL : Hid ((xs.drop 1).length = d) := by
              show _ = _
              rw [List.length_drop, HXL.out]; omega
            have HCS : Hid (∀ j, j < d → ∃ c : Int, w4.cell? ⟨wr.heap.size, 1 + j, none⟩ = some (.int .u8 c) ∧ 0 ≤ c ∧ c ≤ 255 ∧ Hid ((xs.drop 1).getD j 0 = c)) := fun j hj =>
              ⟨_, hrow4 (1 + j) (by omega), (HXR.out _).1, (HXR.out _).2, getD_drop xs 1 j⟩
            generalize hdd : xs.drop 1 = ds at HSP HDL HCS
            clear hdd hrow4
            clear hx
            go_wp2
            go_loop [17, 18, 86] (fun g v i => ∃ (j : Nat) (x : Int), j ≤ d ∧ i = .int .i64 j ∧ v = .int .i64 x ∧ g = .bool true ∧ 0 ≤ x ∧ x ≤ 1114111 ∧ Hid (scan 10 ds 0 = scan 10 (ds.drop j) x)) (fun _ _ i => d - (intOf i).toNat)
            case atStart => exact ⟨0, 0, Nat.zero_le _, rfl, rfl, rfl, by omega, by omega, rfl⟩
            case round =>
              obtain ⟨j, x, hj, rfl, rfl, rfl, hx0, hx1, HS⟩ := hrel
              by_cases hlt : j < d
              · obtain ⟨c, hcc, hc0, hc9, HG⟩ := HCS.out j hlt
                have hd9 := dv_le c
                by_cases hdv : dv c < 10
                · obtain ⟨y, hy⟩ : ∃ y, zd c 10 = y := ⟨_, rfl⟩
                  have hyd : y = dv c := by rw [← hy]; exact zd_good hdv
                  have hy0 : 0 ≤ y := by omega
                  have hy9 : y ≤ 16 := by omega
                  have HYD : Hid (y = dv c) := hyd
                  clear hyd
                  by_cases hov : 1114111 < x * 10 + dv c
                  · have hov' : 1114111 < x * 10 + y := by rw [HYD.out]; exact hov
                    have HE := ans_over 10 ds j x c (by rw [HDL.out]; exact hlt) HS.out HG.out hdv hov
                    obtain ⟨q1, q2⟩ := fits_none HFit.out (HSP.out.trans HE)
                    clear HE hov
                    go_wp2_with (go_at_call 6; refine (zdig_any _ _ _ (by decide)).mono ?_; rintro e w' ⟨rfl, rfl⟩)
                    go_ret
                    exact ⟨rfl, hBw4⟩
                  · have hov' : ¬ 1114111 < x * 10 + y := by rw [HYD.out]; exact hov
                    have HE : Hid (scan 10 ds 0 = scan 10 (ds.drop (j + 1)) (x * 10 + y)) := by
                      show _ = _
                      rw [HYD.out]; exact scan_step 10 ds j x c (by rw [HDL.out]; exact hlt) HS.out HG.out hdv hov
                    clear hov
                    go_wp2_with (go_at_call 6; refine (zdig_any _ _ _ (by decide)).mono ?_; rintro e w' ⟨rfl, rfl⟩)
                    go_round
                    case rel =>
                      refine ⟨trivial, ?_⟩
                      repeat apply Exists.intro
                      exact ⟨⟨j + 1, x * 10 + y, by omega, by go_num, rfl, rfl, by omega, by omega, HE⟩, rfl⟩
                    case measure => simp [intOf]; omega
                · have hy : zd c 10 = -1 := zd_bad hdv
                  have HE := ans_bad 10 ds j x c (by rw [HDL.out]; exact hlt) HS.out HG.out hdv
                  obtain ⟨q1, q2⟩ := fits_none HFit.out (HSP.out.trans HE)
                  clear HE
                  go_wp2_with (go_at_call 6; refine (zdig_any _ _ _ (by decide)).mono ?_; rintro e w' ⟨rfl, rfl⟩)
                  go_ret
                  exact ⟨rfl, hBw4⟩
              · have HE := ans_end 10 ds j x (by rw [HDL.out]; exact hd0) (by rw [HDL.out]; omega) HS.out
                by_cases hch : chB x = true
                · rw [if_pos hch] at HE
                  obtain ⟨q1, q2⟩ := fits_some HFit.out (HSP.out.trans HE)
                  subst q2
                  clear HE
                  go_wp2_with (go_at_call 7; refine (ischar_any _ _).mono ?_; rintro e w' ⟨rfl, rfl⟩)
                  go_ret
                  exact ⟨rfl, hBw4⟩
                · rw [if_neg hch] at HE
                  have hcf : chB x = false := by simpa using hch
                  obtain ⟨q1, q2⟩ := fits_none HFit.out (HSP.out.trans HE)
                  clear HE hch
                  go_wp2_with (go_at_call 7; refine (ischar_any _ _).mono ?_; rintro e w' ⟨rfl, rfl⟩)
                  go_ret
                  exact ⟨rfl, hBw4⟩
end Go.Proofs.YbulkexnnaFmt
