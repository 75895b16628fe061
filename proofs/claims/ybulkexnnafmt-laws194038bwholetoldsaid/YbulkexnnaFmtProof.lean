/-
  The told card of 'xmltext.LawS194038BWhole'.
-/
import Derived.Test.YbulkexnnaFmtCards
import Derived.Test.YbulkexnnaFmtWalk
import Derived.ProofKit
import Derived.ChangeSlices
import Derived.ChangeSame
import Derived.ChangeMaps5
import Derived.JoinedOf
import Derived.Carry
import Derived.Stop.JoinedAt
import Derived.Stop.Texts
import Derived.Stop.JoinedTold
import Derived.SizedLaws
import Derived.SevenToldRow
import Derived.OpenShut
namespace Go.Proofs.YbulkexnnaFmt
open Go.ChangeShapes Go.WideShapes Go.ChangeAt Go.RowKit Go.Kit
open Go.Extern.Stop Go.Stop Go.Extern

theorem Ybaf.own : ownKnob Ybaf.prog.godebug = none := by kernel_rfl
theorem Ybaf.laidOut : laidOutB Ybaf.pinned.checked.prog = true := by kernel_rfl
theorem Ybaf.cells5 : Ybaf.prog.cellsOf 5 = 1 := by kernel_rfl

set_option maxRecDepth 100000 in
theorem lifted (os : Os) (started : os.Started) (H : Type) (enc : TypeId × Value → H) :
    ReturnsInTold none {} Ybaf.checked os 3 .any Input.okWide ((OpenSpec.ofChange Rows.lawS194038BWholeSpec).preRow enc Ybaf.prog Ybaf.f3 [] false []) (fun F => ((OpenSpec.ofChange Rows.lawS194038BWholeSpec).at F).post enc Ybaf.prog Ybaf.f3 false true false false) (aloneAtReturn Ybaf.prog) nothingAlways := by
  refine returnsInTold_of_row (C := Ybaf.checked) (s := OpenSpec.ofChange Rows.lawS194038BWholeSpec) (by kernel_rfl) Ybaf.own started (by kernel_rfl) Ybaf.func3
    (OpenSpec.witness_stopped (enc := enc) (C := Ybaf.checked) false ⟨#[], #[.int .u8 0, .bool false, .slice none 0 0, .bool false], []⟩ 8 (by kernel_rfl) (by kernel_rfl) (by kernel_rfl) (by kernel_rfl)) ?_
  intro F W base args ds gs before _ hF hval0 hW _ _ hsz _ _
  have hval : ∀ (j : Nat) t v, Ybaf.f3.params[j]? = some t → args[j]? = some v → Value.okWide Ybaf.prog W .any base t v := hval0
  have hW' := hW
  obtain ⟨p, q, hA0, hV, rfl, _, _⟩ := hW
  have hA : DataW.TrodAll enc Ybaf.prog W 0 (fun _ => true) true Ybaf.f3.params.toList args.toList ds p := hA0
  rw [Ybaf.params3] at hA hval
  obtain ⟨v0, v1, v2, v3, d0, d1, d2, d3, p0, p1, p2, p3, rfl, rfl, rfl, h0, h1, h2, h3⟩ := trodAll_four hA
  obtain ⟨rfl, rfl⟩ := trodVars_none hV
  obtain ⟨lead, rfl, rfl, rfl, wl⟩ := open_int Ybaf.underlying5 (hval 0 5 v0 rfl rfl) h0
  obtain ⟨hex, rfl, rfl, rfl⟩ := open_bool Ybaf.underlying4 (hval 1 4 v1 rfl rfl) h1
  obtain ⟨mapped, rfl, rfl, rfl⟩ := open_bool Ybaf.underlying4 (hval 3 4 v3 rfl rfl) h3
  obtain ⟨a0, len, cap, rfl⟩ := okWide_slice Ybaf.underlying22 (hval 2 22 v2 rfl rfl)
  have h2k := h2
  obtain ⟨fuel, hf⟩ := h2
  clear hA0 hval0
  simp only [List.append_nil, List.nil_append] at hW'
  have hlt : ∀ x ∈ p2, x.block < W.heap.size := fun x hx => by simpa using hW'.lt x hx
  have hargs : ∀ (W' : World), Below W.heap.size W W' → DataW.Trod enc Ybaf.prog W' 0 (fun b => decide (b < W.heap.size)) true 22 (.slice a0 len cap) d2 p2 :=
    fun W' hn => Below.trod Ybaf.laidOut (by kernel_rfl) (of_decide_eq_true (by kernel_rfl)) h2k hn hlt
  have hlead : 0 ≤ lead ∧ lead ≤ 255 := by
    have := wl
    simp [Lit.wf, IntKind.min, IntKind.max, IntKind.signed, IntKind.bits] at this
    omega
  have key : Calls Ybaf.prog 3 #[.int .u8 lead, .bool hex, .slice a0 len cap, .bool mapped] W fun e w' => e = .returned (.bool true) ∧ Below W.heap.size W w' := by
    by_cases hbig : 1048576 < len
    · exact law_long lead hex mapped a0 len cap W hbig
    · rcases open_ints Ybaf.underlying22 Ybaf.underlying5 Ybaf.cells5 hf with ⟨hcs, hx⟩ | ⟨a, len', cap', zs, hcs, _, hl, hm, hz, hx, hcell, hwz⟩
      · simp [Value.cells] at hcs
        obtain ⟨rfl, rfl, rfl⟩ := hcs
        exact law_short F lead hex mapped none 0 0 0 0 [] W hF (by omega) rfl hlead (by simp) (by omega) (fun k hk => by omega)
      · simp [Value.cells] at hcs
        obtain ⟨rfl, rfl, rfl⟩ := hcs
        simp only [if_true] at hz
        have hzl : (zs.take len).length = len := by rw [List.length_take]; omega
        have hzr : ∀ x ∈ zs.take len, 0 ≤ x ∧ x ≤ 255 := by
          intro x hx
          have := hwz x (List.mem_of_mem_take hx)
          simp [Lit.wf, IntKind.min, IntKind.max, IntKind.signed, IntKind.bits] at this
          omega
        by_cases h0 : len = 0
        · subst h0
          exact law_short F lead hex mapped _ 0 0 0 cap [] W hF (by omega) rfl hlead (by simp) (by omega) (fun k hk => by omega)
        · obtain ⟨b, off, rfl, hc⟩ := ints_at hcell (by omega)
          have hc' : ∀ k, k < len → W.cell? ⟨b, off + k, none⟩ = some (.int .u8 ((zs.take len).getD k 0)) := by
            intro k hk
            rw [hc k (by omega)]
            simp [List.getD, hk]
          have hb : b < W.heap.size := by
            rcases Nat.lt_or_ge b W.heap.size with h' | h'
            · exact h'
            · have := hc' 0 (by omega)
              simp [World.cell?, Array.getElem?_eq_none h'] at this
          exact law_short F lead hex mapped _ b off len cap (zs.take len) W hF (by omega) hzl hlead hzr (fun _ => hb) (fun k hk => ⟨rfl, hc' k hk⟩)
  refine key.mono fun e W' ⟨he, hnx⟩ => ?_
  subst he
  refine ⟨_, rfl, _, _, _, [], [] ++ ([] ++ (p2 ++ [])), [], hW', ?_, ?_, rfl, hnx.frame _, fun h => by cases h⟩
  · exact trodAll_mk1 (shut_bool Ybaf.underlying4 true)
  · exact trodAll_mk4 (shut_int Ybaf.underlying5 wl) (shut_bool Ybaf.underlying4 hex) (hargs _ hnx) (shut_bool Ybaf.underlying4 mapped)

theorem Ybaf.stops : Ybaf.pinned.checked.prog.stops = ["fmt.Sprintf"] := by kernel_rfl
theorem Ybaf.stopKnobs : Ybaf.pinned.checked.prog.stopKnobs = [] := by kernel_rfl
theorem Ybaf.quiet (os : Os) : Stop.quiet Ybaf.pinned.checked.prog os := by
  intro k hk
  rw [Ybaf.stopKnobs] at hk
  cases hk

theorem proved : Rows.LawS194038BWholeToldSaid :=
  Claim7.holds_of_told_any 3 Ybaf.f3 "fmt.Sprintf" [] [] _ _ _ (by kernel_rfl) rfl rfl rfl Ybaf.laidOut (by kernel_rfl) rfl ⟨rfl, rfl, rfl, rfl, rfl, rfl, rfl⟩ rfl rfl (by kernel_rfl) (by kernel_rfl) Ybaf.func3 (by kernel_rfl)
    (of_decide_eq_true (by kernel_rfl)) (of_decide_eq_true (by kernel_rfl)) Ybaf.stops.symm rfl Ybaf.stopKnobs.symm (by kernel_rfl)
    (by kernel_rfl) (by kernel_rfl) (by kernel_rfl) (by kernel_rfl) (by kernel_rfl) (by kernel_rfl) (by kernel_rfl) (by kernel_rfl) (by kernel_rfl) rfl (by kernel_rfl) rfl rfl
    rfl rfl
    rfl (by kernel_rfl) (by kernel_rfl) (by kernel_rfl) (by decide) (by kernel_rfl)
    (OpenClaim.moreEntering_of (by kernel_rfl) (by kernel_rfl) (by kernel_rfl) (by kernel_rfl) (by kernel_rfl) (by kernel_rfl) (by kernel_rfl) (by kernel_rfl) (by kernel_rfl) (by kernel_rfl))
    ⟨_, WideRow.started_initial, Ybaf.quiet _⟩
    (fun os started _ H enc _ => lifted os started H enc)
end Go.Proofs.YbulkexnnaFmt
