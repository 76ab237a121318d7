import Derived.Test.YbulkaieyFmtBase
import Derived.Test.YbulkaieyFmtExactLaw
namespace Go.Proofs.YbulkaieyFmt
open Go.ChangeShapes Go.WideShapes Go.ChangeAt Go.RowKit Go.Kit
open Go.Extern.Stop Go.Stop Go.Extern

set_option maxRecDepth 100000 in
set_option maxHeartbeats 1600000 in
theorem exact_lifted (os : Os) (started : os.Started) (H : Type) (enc : TypeId × Value → H) :
    ReturnsInTold none {} Ybaf.checked os 3 .any Input.okWide ((OpenSpec.ofChange Rows.lawS1701AExactSpec).preRow enc Ybaf.prog Ybaf.f3 [] false Rows.lawS1701AExactRow.laid) (fun F => ((OpenSpec.ofChange Rows.lawS1701AExactSpec).at F).post enc Ybaf.prog Ybaf.f3 false true false false) (aloneAtReturn Ybaf.prog) nothingAlways := by
  refine returnsInTold_of_row (C := Ybaf.checked) (s := OpenSpec.ofChange Rows.lawS1701AExactSpec) (by kernel_rfl) Ybaf.own started (by kernel_rfl) Ybaf.func3
    (OpenSpec.witness_stopped_at (enc := enc) (C := Ybaf.checked) false (laidWorld Ybaf.prog os 0 badS) #[.int .i64 0, .int .i64 0] rfl (by kernel_rfl) (by kernel_rfl) (by kernel_rfl)
      (OpenSpec.preRow_of_B rfl 8 (by kernel_rfl) (by kernel_rfl) (laidO_met os _))) ?_
  intro F W base0 args ds gs before _ hF hval0 hW _ _ _ hL _
  have hval : ∀ (j : Nat) t v, Ybaf.f3.params[j]? = some t → args[j]? = some v → Value.okWide Ybaf.prog W .any base0 t v := hval0
  have hW' := hW
  obtain ⟨p, q, hA0, hV0, rfl, hfz, hnd⟩ := hW
  have hA : DataW.TrodAll enc Ybaf.prog W 0 (fun _ => true) true Ybaf.f3.params.toList args.toList ds p := hA0
  have hV : DataW.TrodVars enc Ybaf.prog W (fun _ => true) [errVar] gs q := hV0
  rw [Ybaf.params3] at hA hval
  obtain ⟨v0, v1, d0, d1, p0, p1, rfl, rfl, rfl, h0, h1⟩ := trodAll_two hA
  obtain ⟨n, rfl, rfl, rfl, wn⟩ := open_int Ybaf.underlying3 (hval 0 3 v0 rfl rfl) h0
  obtain ⟨k, rfl, rfl, rfl, wk⟩ := open_int Ybaf.underlying3 (hval 1 3 v1 rfl rfl) h1
  obtain ⟨a1, s1, hv1, hc1, hs1, hz1⟩ := laid_sentinel hL Ybaf.gO Ybaf.gOType Ybaf.underlying25 Ybaf.row99 Ybaf.underlying99 Ybaf.underlying101 rfl rfl Ybaf.underlying9 Ybaf.cells101 Ybaf.cells9
  obtain ⟨rfl, rfl⟩ := hV.unique (vars_read1 enc Ybaf.gO Ybaf.gOType Ybaf.underlying25 hv1 trivial _)
  clear hA0 hV0 hval0
  have hg1 : W.cell? ⟨0, 0, none⟩ = some (.iface 99 (.pointer (some a1))) := by simpa using World.var?_cell Ybaf.gO hv1 0
  have h0lt : 0 < W.heap.size := by
    rcases Nat.lt_or_ge 0 W.heap.size with h | h
    · exact h
    · simp [World.cell?, Array.getElem?_eq_none h] at hg1
  have hlt1 : a1.block < W.heap.size := by
    rcases Nat.lt_or_ge a1.block W.heap.size with h | h
    · exact h
    · simp [World.cell?, Array.getElem?_eq_none h] at hc1
  have hfn : ((OpenSpec.ofChange Rows.lawS1701AExactSpec).at F.told).fn H ([.lit (.int .i64 n), .lit (.int .i64 k)] ++ [tok enc (.iface 99 (.pointer (some a1)))]) = { results := [.lit (.bool true)], args := [.lit (.int .i64 n), .lit (.int .i64 k)], vars := [tok enc (.iface 99 (.pointer (some a1)))] } := rfl
  have hcall : Calls Ybaf.prog 3 #[.int .i64 n, .int .i64 k] W fun e w' => e = .returned (.bool true) ∧ Below W.heap.size W w' := by
    by_cases hb : k < 0 ∨ 4611686018427387903 < k
    · exact exact_bad F.told n k a1 s1 W hF hg1 hc1 hlt1 h0lt hb
    · exact exact_ok n k W (by omega) (by omega)
  refine hcall.mono fun e W' hend => ?_
  obtain ⟨he, hB⟩ := hend
  subst he
  refine ⟨_, rfl, _, _, _, [], [] ++ [], [.cell 0 0], hW', ?_, ?_, ?_, hB.frame _, fun h => by cases h⟩
  · rw [hfn]; exact trodAll_mk1 (shut_bool Ybaf.underlying4 true)
  · rw [hfn]; exact trodAll_mk2 (shut_int Ybaf.underlying3 wn) (shut_int Ybaf.underlying3 wk)
  · rw [hfn]; exact vars_read1 enc Ybaf.gO Ybaf.gOType Ybaf.underlying25 (var?_below hB Ybaf.gO h0lt hv1) trivial _

theorem exact_card : Rows.LawS1701AExactToldSaid :=
  Claim7.holds_of_told_tied_any_at .later 3 Ybaf.f3 "fmt.errorf" [] [] _ _ _ _ _ (by kernel_rfl) rfl rfl rfl Ybaf.laidOut (by kernel_rfl) rfl ⟨rfl, rfl, rfl, rfl, rfl, rfl, rfl⟩ rfl rfl (by kernel_rfl) (by kernel_rfl) Ybaf.func3 (by kernel_rfl)
    (of_decide_eq_true (by kernel_rfl)) (of_decide_eq_true (by kernel_rfl)) Ybaf.stops.symm rfl Ybaf.stopKnobs.symm (by kernel_rfl)
    (by kernel_rfl) (by kernel_rfl) (by kernel_rfl) (by kernel_rfl) (by kernel_rfl) (by kernel_rfl) (by kernel_rfl) (by kernel_rfl) (by kernel_rfl) rfl (by kernel_rfl) rfl rfl
    rfl rfl
    rfl (by kernel_rfl) (by kernel_rfl) (by kernel_rfl) (by decide) (by kernel_rfl) lawS1701AExact_row_tie
    (OpenClaim.moreEntering_of (by kernel_rfl) (by kernel_rfl) (by kernel_rfl) (by kernel_rfl) (by kernel_rfl) (by kernel_rfl) (by kernel_rfl) (by kernel_rfl) (by kernel_rfl) (by kernel_rfl))
    ⟨_, WideRow.started_initial, Ybaf.quiet _⟩
    (fun os started _ H enc _ => exact_lifted os started H enc)

end Go.Proofs.YbulkaieyFmt
