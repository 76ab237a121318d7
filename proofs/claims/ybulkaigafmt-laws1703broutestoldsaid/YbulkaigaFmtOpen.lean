import Derived.Test.YbulkaigaFmtLaid
import Derived.Test.YbulkaigaFmtBuildBase
import Derived.Deep.SlicePairs
import Derived.OpenShut
namespace Go.Proofs.YbulkaigaFmt
open Go.ChangeShapes Go.WideShapes Go.ChangeAt Go.RowKit Go.Kit Go.Deep
open Go.Extern.Stop Go.Stop Go.Extern

theorem Ybaf.cells5 : Ybaf.prog.cellsOf 5 = 1 := by kernel_rfl
theorem Ybaf.cells27 : Ybaf.prog.cellsOf 27 = 1 := by kernel_rfl
theorem Ybaf.cells28 : Ybaf.prog.cellsOf 28 = 16 := by kernel_rfl
theorem Ybaf.cells30 : Ybaf.prog.cellsOf 30 = 1 := by kernel_rfl
theorem Ybaf.cells32 : Ybaf.prog.cellsOf 32 = 1 := by kernel_rfl
theorem Ybaf.cells63 : Ybaf.prog.cellsOf 63 = 2 := by kernel_rfl

/-- An address whose cell reads lies at no spot inside a value. -/
theorem no_spot {w : World} {a : Go.Addr} {v : Value} (h : w.cell? (a.add 0) = some v) : ∃ b off, a = ⟨b, off, none⟩ := by
  obtain ⟨b, off, sp⟩ := a
  cases sp with
  | none => exact ⟨b, off, rfl⟩
  | some x =>
    simp only [World.cell?, Addr.add] at h
    split at h <;> simp at h

theorem u8_range {n : Int} (h : (Lit.int .u8 n).wf = true) : 0 ≤ n ∧ n ≤ 255 := by
  simp [Lit.wf, IntKind.min, IntKind.max, IntKind.signed, IntKind.bits] at h
  omega
theorem u16_range {n : Int} (h : (Lit.int .u16 n).wf = true) : 0 ≤ n ∧ n ≤ 65535 := by
  simp [Lit.wf, IntKind.min, IntKind.max, IntKind.signed, IntKind.bits] at h
  omega
theorem u32_range {n : Int} (h : (Lit.int .u32 n).wf = true) : 0 ≤ n ∧ n ≤ 4294967295 := by
  simp [Lit.wf, IntKind.min, IntKind.max, IntKind.signed, IntKind.bits] at h
  omega

def byteAt (cs : Array Value) (i : Nat) : Int := match cs[i]? with | some (.int _ n) => n | _ => 0

section
variable {H : Type} {enc : TypeId × Value → H} {W : World}

set_option maxRecDepth 20000 in
theorem open_arr16 {r : Reach} {b0 base : Nat} {sp : Nat → Bool} {held : Bool} {v : Value} {d : DataW H} {ps : List MemPlace} (hok : Value.okWide Ybaf.prog W r b0 28 v) (h : DataW.Trod enc Ybaf.prog W base sp held 28 v d ps) :
    ∃ f : Nat → Int, v = .agg #[.int .u8 (f 0), .int .u8 (f 1), .int .u8 (f 2), .int .u8 (f 3), .int .u8 (f 4), .int .u8 (f 5), .int .u8 (f 6), .int .u8 (f 7), .int .u8 (f 8), .int .u8 (f 9), .int .u8 (f 10), .int .u8 (f 11), .int .u8 (f 12), .int .u8 (f 13), .int .u8 (f 14), .int .u8 (f 15)] ∧ ∀ i, 0 ≤ f i ∧ f i ≤ 255 := by
  simp only [Value.okWide, Ybaf.underlying28] at hok
  obtain ⟨cs, rfl, hsz, _⟩ := hok
  obtain ⟨fuel, hf⟩ := h
  obtain ⟨xs, m, _, _, hl, hx, hel⟩ := DataW.trod_array Ybaf.underlying28 hf
  rw [Ybaf.cells28] at hsz
  have key : ∀ i, i < 16 → ∃ n, cs[i]? = some (.int .u8 n) ∧ 0 ≤ n ∧ n ≤ 255 := by
    intro i hi
    have h1 := hel i hi
    rw [Ybaf.cells5, Nat.mul_one] at h1
    have hxi : xs[i]? = some xs[i] := List.getElem?_eq_getElem (by omega)
    rw [hxi] at h1
    obtain ⟨n, hc, _, hw⟩ := DataW.trod_int Ybaf.underlying5 h1
    refine ⟨n, ?_, u8_range hw⟩
    have h2 := congrArg (fun l => l[0]?) hc
    simpa [Value.cells, List.getElem?_take, List.getElem?_drop] using h2
  refine ⟨byteAt cs, ?_, ?_⟩
  · have hlist : cs.toList = (List.range 16).map fun i => Value.int .u8 (byteAt cs i) := by
      apply List.ext_getElem?
      intro i
      by_cases hi : i < 16
      · obtain ⟨n, hn, _⟩ := key i hi
        have hb : byteAt cs i = n := by unfold byteAt; rw [hn]
        simp [hn, hi, hb]
      · rw [List.getElem?_eq_none (by simp [hsz]; omega), List.getElem?_eq_none (by simp; omega)]
    have : cs = ((List.range 16).map fun i => Value.int .u8 (byteAt cs i)).toArray := by rw [← hlist]
    rw [this]
    generalize byteAt cs = f
    rfl
  · intro i
    by_cases hi : i < 16
    · obtain ⟨n, hn, h0, h1⟩ := key i hi
      have hb : byteAt cs i = n := by unfold byteAt; rw [hn]
      rw [hb]
      exact ⟨h0, h1⟩
    · have : cs[i]? = none := Array.getElem?_eq_none (by omega)
      unfold byteAt
      rw [this]
      decide

/-- One entry, as it lies. -/
def EntAt (W : World) (a : Go.Addr) (i : Nat) (pe : Nat × List Int) : Prop :=
  pe.1 ≤ 65535 ∧ pe.2.length ≤ 9223372036854775807 ∧ (∀ x ∈ pe.2, 0 ≤ x ∧ x ≤ 4294967295) ∧ ∃ pa ca, W.cell? (a.add (i * 2)) = some (.int .u16 (pe.1 : Int)) ∧ W.cell? (a.add (i * 2 + 1)) = some (.slice pa pe.2.length ca) ∧ pe.2.length ≤ ca ∧
    ∀ j x, pe.2[j]? = some x → ∃ ba oa, pa = some ⟨ba, oa, none⟩ ∧ W.cell? ⟨ba, oa + j, none⟩ = some (.int .u32 x)

theorem open_asns {base fuel : Nat} {held : Bool} {v : Value} {y : DataW H × List MemPlace} (h : DataW.trod enc Ybaf.prog W base (fun _ => true) held fuel 30 [v] = some y) :
    ∃ (pa : Option Go.Addr) (n ca : Nat) (l : List Int), v = .slice pa n ca ∧ l.length = n ∧ n ≤ ca ∧ n ≤ 9223372036854775807 ∧ (∀ x ∈ l, 0 ≤ x ∧ x ≤ 4294967295) ∧ ∀ (j : Nat) (x : Int), l[j]? = some x → ∃ ba oa, pa = some ⟨ba, oa, none⟩ ∧ W.cell? ⟨ba, oa + j, none⟩ = some (.int .u32 x) := by
  rcases Go.ChangeShapes.open_ints Ybaf.underlying30 Ybaf.underlying27 Ybaf.cells27 h with ⟨hc, _⟩ | ⟨a, len, cap, zs, hc, _, hlc, hcm, hz, _, hcell, hw⟩
  · simp only [List.cons.injEq, and_true] at hc
    exact ⟨none, 0, 0, [], hc, rfl, Nat.le_refl _, by omega, by simp, by simp⟩
  · simp only [List.cons.injEq, and_true] at hc
    simp only [if_true] at hz
    refine ⟨some a, len, cap, zs.take len, hc, by rw [List.length_take]; omega, hlc, by unfold maxLen at hcm; omega, fun x hx => u32_range (hw x (List.mem_of_mem_take hx)), fun j x hx => ?_⟩
    rw [List.getElem?_take] at hx
    split at hx
    · rename_i hj
      have hj2 := (List.getElem?_eq_some_iff.mp hx).1
      obtain ⟨ba, oa, rfl⟩ := no_spot (hcell 0 (by omega))
      refine ⟨ba, oa, rfl, ?_⟩
      have := hcell j hj2
      rw [add_off] at this
      rw [this, List.getD_eq_getElem?_getD, hx]
      rfl
    · cases hx

theorem open_entries {base : Nat} {held : Bool} {p : Option Go.Addr} {n c : Nat} {d : DataW H} {ps : List MemPlace} (h : DataW.Trod enc Ybaf.prog W base (fun _ => true) held 29 (.slice p n c) d ps) :
    ∃ E : List (Nat × List Int), E.length = n ∧ n ≤ 9223372036854775807 ∧ EntMem W p E := by
  obtain ⟨fuel, hf⟩ := h
  rcases open_slice_pairs Ybaf.underlying29 Ybaf.underlying63 Ybaf.cells63 rfl rfl (by kernel_rfl) (by kernel_rfl) hf with ⟨hc, _⟩ | ⟨a, len, cap, m, k, V0, V1, D0, D1, P0, P1, hc, _, hlc, hcm, hm, _, hall⟩
  · simp [Value.cells] at hc
    obtain ⟨rfl, rfl, rfl⟩ := hc
    exact ⟨[], rfl, by omega, fun i pe he => by simp at he⟩
  · simp [Value.cells] at hc
    obtain ⟨rfl, rfl, rfl⟩ := hc
    simp only [if_true] at hm
    have each : ∀ i, ∃ pe : Nat × List Int, i < n → EntAt W a i pe := by
      intro i
      by_cases hi : i < n
      · obtain ⟨h0, h1, t0, t1⟩ := hall i (by omega)
        obtain ⟨z, hz, _, hw⟩ := DataW.trod_int Ybaf.underlying32 t0
        simp only [List.cons.injEq, and_true] at hz
        have hz2 := u16_range hw
        obtain ⟨pa, n', ca, l, hv, hl, hlc', hmx, hr, hcl⟩ := open_asns t1
        refine ⟨(z.toNat, l), fun _ => ⟨by show z.toNat ≤ 65535; omega, by show l.length ≤ _; omega, hr, pa, ca, ?_, ?_, by show l.length ≤ ca; omega, hcl⟩⟩
        · rw [h0, hz]
          show some (Value.int .u16 z) = some (Value.int .u16 (z.toNat : Int))
          rw [Int.toNat_of_nonneg hz2.1]
        · rw [h1, hv, ← hl]
      · exact ⟨(0, []), fun h => absurd h hi⟩
    refine ⟨(List.range n).map fun i => Classical.choose (each i), by simp, by unfold maxLen at hcm; omega, fun i pe he => ?_⟩
    rw [List.getElem?_map] at he
    obtain ⟨i', hi', rfl⟩ := Option.map_eq_some_iff.mp he
    have hin := (List.getElem?_eq_some_iff.mp hi').1
    rw [List.length_range] at hin
    rw [List.getElem?_range hin, Option.some.injEq] at hi'
    subst hi'
    obtain ⟨q1, q2, q3, pa, ca, q4, q5, q6, q7⟩ := Classical.choose_spec (each i) hin
    obtain ⟨h0, _⟩ := hall 0 (by omega)
    rw [Nat.zero_mul] at h0
    obtain ⟨b, off, rfl⟩ := no_spot h0
    rw [add_off] at q4 q5
    refine ⟨q1, q2, q3, b, off, pa, ca, rfl, by rw [Nat.mul_comm 2 i]; exact q4, by rw [Nat.mul_comm 2 i]; exact q5, q6, q7⟩
end
end Go.Proofs.YbulkaigaFmt
