import Derived.Test.YbulkaigaFmtOpen
import Derived.Deep.DeepWitnessRef
import Derived.Test.YbulkaigaFmtWitness
import Derived.Test.YbulkaigaFmtRoutesLaw
namespace Go.Proofs.YbulkaigaFmt
open Go.ChangeShapes Go.WideShapes Go.ChangeAt Go.RowKit Go.Kit
open Go.Extern.Stop Go.Stop Go.Extern

theorem Ybaf.ownC : ownKnob Ybaf.prog.godebug = none := by kernel_rfl
theorem Ybaf.laidOutC : laidOutB Ybaf.pinned.checked.prog = true := by kernel_rfl
theorem Ybaf.stopsC : Ybaf.pinned.checked.prog.stops = ["fmt.Sprintf", "fmt.errorf"] := by kernel_rfl
theorem Ybaf.stopKnobsC : Ybaf.pinned.checked.prog.stopKnobs = [] := by kernel_rfl
theorem Ybaf.quietC (os : Os) : Stop.quiet Ybaf.pinned.checked.prog os := by
  intro k hk
  rw [Ybaf.stopKnobsC] at hk
  cases hk

theorem open_peers {H : Type} {enc : TypeId × Value → H} {W : World} {base : Nat} {held : Bool} {p : Option Go.Addr} {n c : Nat} {d : DataW H} {ps : List MemPlace} (h : DataW.Trod enc Ybaf.prog W base (fun _ => true) held 30 (.slice p n c) d ps) :
    ∃ l : List Int, l.length = n ∧ n ≤ c ∧ n ≤ 9223372036854775807 ∧ (p = none → c = 0) ∧ ∀ (j : Nat) (x : Int), l[j]? = some x → ∃ ba oa, p = some ⟨ba, oa, none⟩ ∧ W.cell? ⟨ba, oa + j, none⟩ = some (.int .u32 x) := by
  obtain ⟨fuel, hf⟩ := h
  rcases Go.ChangeShapes.open_ints Ybaf.underlying30 Ybaf.underlying27 Ybaf.cells27 hf with ⟨hc, _⟩ | ⟨a, len, cap, zs, hc, _, hlc, hcm, hz, _, hcell, hw⟩
  · simp [Value.cells] at hc
    obtain ⟨rfl, rfl, rfl⟩ := hc
    exact ⟨[], rfl, Nat.le_refl _, by omega, fun _ => rfl, by simp⟩
  · simp [Value.cells] at hc
    obtain ⟨rfl, rfl, rfl⟩ := hc
    simp only [if_true] at hz
    refine ⟨zs.take n, by rw [List.length_take]; omega, hlc, by unfold maxLen at hcm; omega, (fun h => by cases h), fun j x hx => ?_⟩
    rw [List.getElem?_take] at hx
    split at hx
    · have hj2 := (List.getElem?_eq_some_iff.mp hx).1
      obtain ⟨ba, oa, rfl⟩ := no_spot (hcell 0 (by omega))
      refine ⟨ba, oa, rfl, ?_⟩
      have := hcell j hj2
      rw [add_off] at this
      rw [this, List.getD_eq_getElem?_getD, hx]
      rfl
    · cases hx

set_option maxRecDepth 100000 in
set_option maxHeartbeats 3200000 in
theorem lawS1703BRoutes_lifted (os : Os) (started : os.Started) (H : Type) (enc : TypeId × Value → H) :
    ReturnsInTold none {} Ybaf.checked os 5 .any Input.okWide ((OpenSpec.ofChange Rows.lawS1703BRoutesSpec).preRow enc Ybaf.prog Ybaf.f5 [] false Rows.lawS1703BRoutesRow.laid) (fun F => ((OpenSpec.ofChange Rows.lawS1703BRoutesSpec).at F).post enc Ybaf.prog Ybaf.f5 false true false false) (aloneAtReturn Ybaf.prog) nothingAlways := by
  refine returnsInTold_of_row (C := Ybaf.checked) (s := OpenSpec.ofChange Rows.lawS1703BRoutesSpec) (by kernel_rfl) Ybaf.ownC started (by kernel_rfl) Ybaf.func5
    (OpenSpec.witness_stopped_atRef (enc := enc) (C := Ybaf.checked) false (laidWorld Ybaf.prog os) #[.int .u8 0, .bool false, .int .u32 0, .int .u8 0, .agg #[.int .u8 0, .int .u8 0, .int .u8 0, .int .u8 0, .int .u8 0, .int .u8 0, .int .u8 0, .int .u8 0, .int .u8 0, .int .u8 0, .int .u8 0, .int .u8 0, .int .u8 0, .int .u8 0, .int .u8 0, .int .u8 0], .slice none 0 0, .slice none 0 0] rfl (by kernel_rfl) (by kernel_rfl) (by kernel_rfl)
      (OpenSpec.preRow_of_B rfl 8 (by kernel_rfl) (by kernel_rfl) (laid_met os _))) ?_
  intro F W base0 args ds gs before _ hF hval0 hW _ _ _ hL _
  have hval : ∀ (j : Nat) t v, Ybaf.f5.params[j]? = some t → args[j]? = some v → Value.okWide Ybaf.prog W .any base0 t v := hval0
  have hW' := hW
  obtain ⟨p, q, hA0, hV, rfl, hfz, hnd⟩ := hW
  have hA : DataW.TrodAll enc Ybaf.prog W 0 (fun _ => true) true Ybaf.f5.params.toList args.toList ds p := hA0
  rw [Ybaf.params5] at hA hval
  obtain ⟨v0, l0, d0, e0, p0, q0, ha0, rfl, rfl, h0, hA⟩ := trodAll_cons hA
  obtain ⟨v1, l1, d1, e1, p1, q1, rfl, rfl, rfl, h1, hA⟩ := trodAll_cons hA
  obtain ⟨v2, l2, d2, e2, p2, q2, rfl, rfl, rfl, h2, hA⟩ := trodAll_cons hA
  obtain ⟨v3, l3, d3, e3, p3, q3, rfl, rfl, rfl, h3, hA⟩ := trodAll_cons hA
  obtain ⟨v4, l4, d4, e4, p4, q4, rfl, rfl, rfl, h4, hA⟩ := trodAll_cons hA
  obtain ⟨v5, l5, d5, e5, p5, q5, rfl, rfl, rfl, h5, hA⟩ := trodAll_cons hA
  obtain ⟨v6, l6, d6, e6, p6, q6, rfl, rfl, rfl, h6, hA⟩ := trodAll_cons hA
  obtain ⟨rfl, rfl, rfl⟩ := trodAll_nil hA
  obtain ⟨args⟩ := args
  simp only at ha0
  subst ha0
  obtain ⟨rfl, rfl⟩ := trodVars_none hV
  obtain ⟨a4, a6, hM⟩ := marks_of_laid hL
  have hlt : ∀ x ∈ p0 ++ (p1 ++ (p2 ++ (p3 ++ (p4 ++ (p5 ++ (p6 ++ [])))))), x.block < W.heap.size := fun x hx => by simpa using hW'.lt x (by simpa using hx)
  have carry : ∀ (W' : World), Below W.heap.size W W' → DataW.TrodAll enc Ybaf.prog W' 0 (fun b => decide (b < W.heap.size)) true Ybaf.f5.params.toList [v0, v1, v2, v3, v4, v5, v6] [d0, d1, d2, d3, d4, d5, d6] (p0 ++ (p1 ++ (p2 ++ (p3 ++ (p4 ++ (p5 ++ (p6 ++ []))))))) := by
    intro W' hn
    rw [Ybaf.params5]
    refine trodAll_cons_mk (Below.trod Ybaf.laidOutC (by kernel_rfl) (of_decide_eq_true (by kernel_rfl)) h0 hn (fun x hx => hlt x (by simp [hx]))) ?_
    refine trodAll_cons_mk (Below.trod Ybaf.laidOutC (by kernel_rfl) (of_decide_eq_true (by kernel_rfl)) h1 hn (fun x hx => hlt x (by simp [hx]))) ?_
    refine trodAll_cons_mk (Below.trod Ybaf.laidOutC (by kernel_rfl) (of_decide_eq_true (by kernel_rfl)) h2 hn (fun x hx => hlt x (by simp [hx]))) ?_
    refine trodAll_cons_mk (Below.trod Ybaf.laidOutC (by kernel_rfl) (of_decide_eq_true (by kernel_rfl)) h3 hn (fun x hx => hlt x (by simp [hx]))) ?_
    refine trodAll_cons_mk (Below.trod Ybaf.laidOutC (by kernel_rfl) (of_decide_eq_true (by kernel_rfl)) h4 hn (fun x hx => hlt x (by simp [hx]))) ?_
    refine trodAll_cons_mk (Below.trod Ybaf.laidOutC (by kernel_rfl) (of_decide_eq_true (by kernel_rfl)) h5 hn (fun x hx => hlt x (by simp [hx]))) ?_
    refine trodAll_cons_mk (Below.trod Ybaf.laidOutC (by kernel_rfl) (of_decide_eq_true (by kernel_rfl)) h6 hn (fun x hx => hlt x (by simp [hx]))) ?_
    exact trodAll_mk0
  have hfn : ((OpenSpec.ofChange Rows.lawS1703BRoutesSpec).at F.told).fn H ([d0, d1, d2, d3, d4, d5, d6] ++ []) = { results := [.lit (.bool true)], args := [d0, d1, d2, d3, d4, d5, d6] } := rfl
  obtain ⟨sel, hv0, _, _, w0⟩ := open_int Ybaf.underlying5 (hval 0 5 v0 rfl rfl) h0
  obtain ⟨ap, hv1, _, _⟩ := open_bool Ybaf.underlying4 (hval 1 4 v1 rfl rfl) h1
  obtain ⟨seq, hv2, _, _, w2⟩ := open_int Ybaf.underlying27 (hval 2 27 v2 rfl rfl) h2
  obtain ⟨bits, hv3, _, _, w3⟩ := open_int Ybaf.underlying5 (hval 3 5 v3 rfl rfl) h3
  obtain ⟨f, hv4, hf⟩ := open_arr16 (hval 4 28 v4 rfl rfl) h4
  obtain ⟨pe, len, cap, hv5⟩ := okWide_slice Ybaf.underlying29 (hval 5 29 v5 rfl rfl)
  obtain ⟨pa, ln, ca, hv6⟩ := okWide_slice Ybaf.underlying30 (hval 6 30 v6 rfl rfl)
  have hEx : ∃ E : List (Nat × List Int), E.length = len ∧ len ≤ 9223372036854775807 ∧ EntMem W pe E := by rw [hv5] at h5; exact open_entries h5
  obtain ⟨E, hEl, hEm, hE⟩ := hEx
  have hLx : ∃ l : List Int, l.length = ln ∧ ln ≤ ca ∧ ln ≤ 9223372036854775807 ∧ (pa = none → ca = 0) ∧ ∀ (j : Nat) (x : Int), l[j]? = some x → ∃ ba oa, pa = some ⟨ba, oa, none⟩ ∧ W.cell? ⟨ba, oa + j, none⟩ = some (.int .u32 x) := by rw [hv6] at h6; exact open_peers h6
  obtain ⟨l, hll, hlc, hlm, hnil, hlx⟩ := hLx
  have key := routes_any F.told a4 a6 ap sel seq bits f pe pa cap ca E l W hF hM (u8_range w0).1 (u8_range w0).2 (u32_range w2).1 (u32_range w2).2 (u8_range w3).1 (u8_range w3).2 hf hE (by omega) (by omega) (by omega) hnil hlx
  rw [hEl, hll, ← hv0, ← hv1, ← hv2, ← hv3, ← hv4, ← hv5, ← hv6] at key
  refine key.mono fun e W' hend => ?_
  obtain ⟨he, hB⟩ := hend
  subst he
  refine ⟨_, rfl, _, _, _, [], p0 ++ (p1 ++ (p2 ++ (p3 ++ (p4 ++ (p5 ++ (p6 ++ [])))))), [], hW', ?_, ?_, ?_, hB.frame _, fun h => by cases h⟩
  · rw [hfn]; exact trodAll_mk1 (shut_bool Ybaf.underlying4 true)
  · rw [hfn]; exact carry _ hB
  · rw [hfn]; rfl

theorem lawS1703BRoutes_card : Rows.LawS1703BRoutesToldSaid :=
  Claim7.holds_of_told_tied_any_at .later 5 Ybaf.f5 "fmt.Sprintf" ["fmt.errorf"] [] _ _ _ _ _ (by kernel_rfl) rfl rfl rfl Ybaf.laidOutC (by kernel_rfl) rfl ⟨rfl, rfl, rfl, rfl, rfl, rfl, rfl⟩ rfl rfl (by kernel_rfl) (by kernel_rfl) Ybaf.func5 (by kernel_rfl)
    (of_decide_eq_true (by kernel_rfl)) (of_decide_eq_true (by kernel_rfl)) Ybaf.stopsC.symm rfl Ybaf.stopKnobsC.symm (by kernel_rfl)
    (by kernel_rfl) (by kernel_rfl) (by kernel_rfl) (by kernel_rfl) (by kernel_rfl) (by kernel_rfl) (by kernel_rfl) (by kernel_rfl) (by kernel_rfl) rfl (by kernel_rfl) rfl rfl
    rfl rfl
    rfl (by kernel_rfl) (by kernel_rfl) (by kernel_rfl) (by decide) (by kernel_rfl) lawS1703BRoutes_row_tie
    (OpenClaim.moreEntering_of (by kernel_rfl) (by kernel_rfl) (by kernel_rfl) (by kernel_rfl) (by kernel_rfl) (by kernel_rfl) (by kernel_rfl) (by kernel_rfl) (by kernel_rfl) (by kernel_rfl))
    ⟨_, WideRow.started_initial, Ybaf.quietC _⟩
    (fun os started _ H enc _ => lawS1703BRoutes_lifted os started H enc)
end Go.Proofs.YbulkaigaFmt
