import Derived.Test.YbulkaieyFmtBase
import Derived.Test.YbulkaieyFmtIndexLaw
import Derived.SliceStrings
namespace Go.Proofs.YbulkaieyFmt
open Go.ChangeShapes Go.WideShapes Go.ChangeAt Go.RowKit Go.Kit
open Go.ChangeMaps (open_string shut_string)
open Go.Extern.Stop Go.Stop Go.Extern

set_option maxRecDepth 100000 in
set_option maxHeartbeats 1600000 in
theorem index_lifted (os : Os) (started : os.Started) (H : Type) (enc : TypeId × Value → H) :
    ReturnsInTold none {} Ybaf.checked os 5 .any Input.okWide ((OpenSpec.ofChange Rows.lawS1701BIndexSpec).preRow enc Ybaf.prog Ybaf.f5 [] false []) (fun F => ((OpenSpec.ofChange Rows.lawS1701BIndexSpec).at F).post enc Ybaf.prog Ybaf.f5 false true false false) (aloneAtReturn Ybaf.prog) nothingAlways := by
  refine returnsInTold_of_row (C := Ybaf.checked) (s := OpenSpec.ofChange Rows.lawS1701BIndexSpec) (by kernel_rfl) Ybaf.own started (by kernel_rfl) Ybaf.func5
    (OpenSpec.witness_stopped (enc := enc) (C := Ybaf.checked) false ⟨#[], #[.slice none 0 0, .string ByteArray.empty, .int .u8 0, .bool false], []⟩ 8 (by kernel_rfl) (by kernel_rfl) (by kernel_rfl) (by kernel_rfl)) ?_
  intro F W base0 args ds gs before _ hF hval0 hW _ _ _ _ _
  have hval : ∀ (j : Nat) t v, Ybaf.f5.params[j]? = some t → args[j]? = some v → Value.okWide Ybaf.prog W .any base0 t v := hval0
  have hW' := hW
  obtain ⟨p, q, hA0, hV, rfl, hfz, hnd⟩ := hW
  have hA : DataW.TrodAll enc Ybaf.prog W 0 (fun _ => true) true Ybaf.f5.params.toList args.toList ds p := hA0
  rw [Ybaf.params5] at hA hval
  obtain ⟨v0, v1, v2, v3, d0, d1, d2, d3, p0, p1, p2, p3, rfl, rfl, rfl, h0, h1, h2, h3⟩ := trodAll_four hA
  obtain ⟨rfl, rfl⟩ := trodVars_none hV
  obtain ⟨a0, len, cap, rfl⟩ := okWide_slice Ybaf.underlying34 (hval 0 34 v0 rfl rfl)
  obtain ⟨raw, rfl, rfl, rfl, hraw⟩ := open_string Ybaf.underlying9 (hval 1 9 v1 rfl rfl) h1
  obtain ⟨pk, rfl, rfl, rfl, wpk⟩ := open_int Ybaf.underlying5 (hval 2 5 v2 rfl rfl) h2
  obtain ⟨u, rfl, rfl, rfl⟩ := open_bool Ybaf.underlying4 (hval 3 4 v3 rfl rfl) h3
  clear hA0 hval0
  simp only [List.append_nil] at hW'
  have hlt : ∀ x ∈ p0, x.block < W.heap.size := fun x hx => by simpa using hW'.lt x hx
  have h0k := h0
  have hargs : ∀ (W' : World), Below W.heap.size W W' → DataW.Trod enc Ybaf.prog W' 0 (fun b => decide (b < W.heap.size)) true 34 (.slice a0 len cap) d0 p0 :=
    fun W' hn => Below.trod Ybaf.laidOut (by kernel_rfl) (of_decide_eq_true (by kernel_rfl)) h0k hn hlt
  have bpk : 0 ≤ pk ∧ pk ≤ 255 := by
    have := wpk
    simp [Lit.wf, IntKind.min, IntKind.max, IntKind.signed, IntKind.bits] at this
    omega
  obtain ⟨pn, rfl⟩ := Int.eq_ofNat_of_zero_le bpk.1
  have hnames : ∃ f, Names a0 len f W ∧ len ≤ maxLen := by
    obtain ⟨fuel, hf⟩ := h0
    rcases open_strings Ybaf.underlying34 Ybaf.underlying9 Ybaf.cells9 hf with ⟨hcs, hx⟩ | ⟨a, len', cap', ss, hcs, _, hl, hm, hz, hx, hcell, hws⟩
    · simp [Value.cells] at hcs
      obtain ⟨rfl, rfl, rfl⟩ := hcs
      exact ⟨fun _ => ByteArray.empty, fun k hk => absurd hk (Nat.not_lt_zero _), Nat.zero_le _⟩
    · simp [Value.cells] at hcs
      obtain ⟨rfl, rfl, rfl⟩ := hcs
      simp at hz
      refine ⟨fun k => ss.getD k ByteArray.empty, fun k hk => ?_, by omega⟩
      obtain ⟨b, off, sp⟩ := a
      have hc0 := hcell 0 (by omega)
      have hsp : sp = none := by
        cases sp with
        | none => rfl
        | some x =>
          simp only [World.cell?, Addr.add] at hc0
          split at hc0 <;> simp at hc0
      subst hsp
      have hc := hcell k (by omega)
      have e : (⟨b, off, none⟩ : Addr).add k = ⟨b, off + k, none⟩ := by
        unfold Addr.add
        split
        · next h => subst h; rfl
        · rfl
      rw [e] at hc
      refine ⟨b, off, rfl, ?_, ?_, hc⟩
      · rcases Nat.lt_or_ge b W.heap.size with h | h
        · exact h
        · simp [World.cell?, Array.getElem?_eq_none h] at hc
      · show (ss.getD k ByteArray.empty).size ≤ maxLen
        rw [List.getD_eq_getElem?_getD, List.getElem?_eq_getElem (by omega)]
        exact hws _ (List.getElem_mem _)
  obtain ⟨f, hN, hm⟩ := hnames
  have hfn : ∀ x, ((OpenSpec.ofChange Rows.lawS1701BIndexSpec).at F.told).fn H ([x, .lit (.string raw.data.toList), .lit (.int .u8 (pn : Int)), .lit (.bool u)] ++ []) = { results := [.lit (.bool true)], args := [x, .lit (.string raw.data.toList), .lit (.int .u8 (pn : Int)), .lit (.bool u)] } := fun _ => rfl
  refine (index_all F.told a0 len cap f raw pn u W hF (by omega) hm hN hraw).mono fun e W' hend => ?_
  obtain ⟨he, hB⟩ := hend
  subst he
  refine ⟨_, rfl, _, _, _, [], p0 ++ ([] ++ ([] ++ ([] ++ []))), [], hW', ?_, ?_, ?_, hB.frame _, fun h => by cases h⟩
  · rw [hfn]; exact trodAll_mk1 (shut_bool Ybaf.underlying4 true)
  · rw [hfn]; exact trodAll_mk4 (hargs _ hB) (shut_string Ybaf.underlying9 hraw) (shut_int Ybaf.underlying5 wpk) (shut_bool Ybaf.underlying4 u)
  · rw [hfn]; rfl

theorem index_card : Rows.LawS1701BIndexToldSaid :=
  Claim7.holds_of_told_any 5 Ybaf.f5 "fmt.errorf" [] [] _ _ _ (by kernel_rfl) rfl rfl rfl Ybaf.laidOut (by kernel_rfl) rfl ⟨rfl, rfl, rfl, rfl, rfl, rfl, rfl⟩ rfl rfl (by kernel_rfl) (by kernel_rfl) Ybaf.func5 (by kernel_rfl)
    (of_decide_eq_true (by kernel_rfl)) (of_decide_eq_true (by kernel_rfl)) Ybaf.stops.symm rfl Ybaf.stopKnobs.symm (by kernel_rfl)
    (by kernel_rfl) (by kernel_rfl) (by kernel_rfl) (by kernel_rfl) (by kernel_rfl) (by kernel_rfl) (by kernel_rfl) (by kernel_rfl) (by kernel_rfl) rfl (by kernel_rfl) rfl rfl
    rfl rfl
    rfl (by kernel_rfl) (by kernel_rfl) (by kernel_rfl) (by decide) (by kernel_rfl)
    (OpenClaim.moreEntering_of (by kernel_rfl) (by kernel_rfl) (by kernel_rfl) (by kernel_rfl) (by kernel_rfl) (by kernel_rfl) (by kernel_rfl) (by kernel_rfl) (by kernel_rfl) (by kernel_rfl))
    ⟨_, WideRow.started_initial, Ybaf.quiet _⟩
    (fun os started _ H enc _ => index_lifted os started H enc)

end Go.Proofs.YbulkaieyFmt
