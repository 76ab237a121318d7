import Derived.Test.YbulkaieyRows
import Derived.Test.YbulkaieySourceLaw
import Derived.WalkKit
import Derived.ProofKit
import Derived.OpenShut
import Derived.ShutString
import Derived.ChangeOld
import Derived.Below
namespace Go.Proofs.Ybulkaiey
open Go.ChangeShapes Go.WideShapes Go.ChangeAt Go.RowKit
open Go.ChangeMaps (open_string shut_string)
set_option linter.unusedVariables false

theorem own : ownKnob Yba.prog.godebug = none := by kernel_rfl
theorem laidOut : laidOutB Yba.prog = true := by kernel_rfl

/-- WHAT THE WALK IS TOLD OF A SLICE OF INTEGERS THAT CAME IN: it is nil; or it leads to a row of 'cap' cells, the numbers 'zs' (the first 'len' are its elements, the rest its spare room), each fitting its kind. -/
def IsRow (k : IntKind) (w : World) (a : Option Addr) (len cap : Nat) (zs : List Int) : Prop :=
  (a = none ∧ len = 0 ∧ cap = 0 ∧ zs = []) ∨
  ∃ x, a = some x ∧ len ≤ cap ∧ cap ≤ maxLen ∧ zs.length = cap ∧ (∀ i, i < zs.length → w.cell? (x.add i) = some (.int k (zs.getD i 0))) ∧ ∀ n ∈ zs, (Lit.int k n).wf = true

set_option maxRecDepth 100000 in
set_option maxHeartbeats 1000000 in
theorem law_far (p : Option Addr) (n cap : Nat) (a1 a2 a3 a4 a5 a6 a7 : Int) (w : World) (hn : 1024 < n) (hm : n ≤ maxLen) :
    Calls Yba.prog 3 #[.slice p n cap, .int .u8 a1, .int .u8 a2, .int .u8 a3, .int .u8 a4, .int .u8 a5, .int .u8 a6, .int .u8 a7] w fun e w' => e = .returned (.bool true) ∧ Below w.heap.size w w' := by
  unfold maxLen at hm
  go_enter Yba.func3, Yba.ntmps3
  go_wp2_with fail
  go_ret
  exact ⟨rfl, Below.refl _ _⟩

theorem walk (a0 : Option Addr) (len0 cap0 : Nat) (z0 : List Int) (a1 : Int) (a2 : Int) (a3 : Int) (a4 : Int) (a5 : Int) (a6 : Int) (a7 : Int) (w : World) (w0 : IsRow .u8 w a0 len0 cap0 z0) (w1 : (Lit.int .u8 a1).wf = true) (w2 : (Lit.int .u8 a2).wf = true) (w3 : (Lit.int .u8 a3).wf = true) (w4 : (Lit.int .u8 a4).wf = true) (w5 : (Lit.int .u8 a5).wf = true) (w6 : (Lit.int .u8 a6).wf = true) (w7 : (Lit.int .u8 a7).wf = true) :
    Calls Yba.prog 3 #[.slice a0 len0 cap0, .int .u8 a1, .int .u8 a2, .int .u8 a3, .int .u8 a4, .int .u8 a5, .int .u8 a6, .int .u8 a7] w fun e w' => e = .returned (.bool true) ∧ Below w.heap.size w w' := by
  have bd : ∀ x : Int, (Lit.int .u8 x).wf = true → ∃ n : Nat, x = (n : Int) ∧ n ≤ 255 := fun x h => by
    simp [Lit.wf, IntKind.min, IntKind.max, IntKind.signed, IntKind.bits] at h
    exact ⟨x.toNat, by omega, by omega⟩
  obtain ⟨e0, rfl, b0⟩ := bd _ w1
  obtain ⟨e1, rfl, b1⟩ := bd _ w2
  obtain ⟨e2, rfl, b2⟩ := bd _ w3
  obtain ⟨e3, rfl, b3⟩ := bd _ w4
  obtain ⟨e4, rfl, b4⟩ := bd _ w5
  obtain ⟨e5, rfl, b5⟩ := bd _ w6
  obtain ⟨e6, rfl, b6⟩ := bd _ w7
  have hv : ∃ f, Vals a0 len0 f w ∧ len0 ≤ maxLen := by
    rcases w0 with ⟨rfl, rfl, rfl, rfl⟩ | ⟨x, rfl, hl, hm, hz, hcell, hwz⟩
    · exact ⟨fun _ => 0, fun k hk => absurd hk (Nat.not_lt_zero _), Nat.zero_le _⟩
    · refine ⟨fun k => z0.getD k 0, fun k hk => ?_, by omega⟩
      obtain ⟨b, off, sp⟩ := x
      have hc0 := hcell 0 (by omega)
      have hsp : sp = none := by
        cases sp with
        | none => rfl
        | some x =>
          simp only [World.cell?, Addr.add] at hc0
          split at hc0 <;> simp at hc0
      subst hsp
      have hc := hcell k (by omega)
      have e : (⟨b, off, none⟩ : Addr).add k = ⟨b, off + k, none⟩ := by
        unfold Addr.add
        split
        · next h => subst h; rfl
        · rfl
      rw [e] at hc
      have hmem : z0.getD k 0 ∈ z0 := by
        rw [List.getD_eq_getElem?_getD, List.getElem?_eq_getElem (by omega)]
        exact List.getElem_mem _
      obtain ⟨nn, hn, hn255⟩ := bd _ (hwz _ hmem)
      refine ⟨b, off, rfl, cell_block hc, ?_, ?_, hc⟩
      · show 0 ≤ z0.getD k 0
        omega
      · show z0.getD k 0 ≤ 255
        omega
  obtain ⟨f, hV, hm⟩ := hv
  by_cases hn : len0 ≤ 1024
  · exact law_small a0 len0 cap0 f e0 e1 e2 e3 e4 e5 e6 w hn hV b0 b1 b2 b3 b4 b5 b6
  · exact law_far a0 len0 cap0 _ _ _ _ _ _ _ w (by omega) hm

/-! ### THE ROW's STEP: WRITTEN OUT: LEAVE IT -/
set_option maxRecDepth 100000 in
theorem lifted (os : Os) (started : os.Started) (H : Type) (enc : TypeId × Value → H) :
    ReturnsInHanded {} Yba.checked os 3 .any (Rows.lawS1701CSourceSpec.pre6 enc Yba.prog Yba.f3 Rows.lawS1701CSourceRow.domain false) (Rows.lawS1701CSourceSpec.post enc Yba.prog Yba.f3 false true false false) := by
  refine returnsInHanded_of_change (C := Yba.checked) own started (by kernel_rfl) Yba.func3
    (ChangeSpec.witness6 (enc := enc) (C := Yba.checked) false ⟨#[], #[.slice none 0 0, .int .u8 0, .int .u8 0, .int .u8 0, .int .u8 0, .int .u8 0, .int .u8 0, .int .u8 0], []⟩ 8 (by kernel_rfl) (by kernel_rfl) (by kernel_rfl) (by kernel_rfl)) ?_
  intro W base args ds gs before hval0 hW hcnd _
  have hval : ∀ (j : Nat) t v, Yba.f3.params[j]? = some t → args[j]? = some v → Value.okWide Yba.prog W .any base t v := hval0
  have hW' := hW
  obtain ⟨p, q, hA0, hV, rfl, hfz, hnd⟩ := hW
  have hA : DataW.TrodAll enc Yba.prog W 0 (fun _ => true) true Yba.f3.params.toList args.toList ds p := hA0
  rw [Yba.params3] at hA hval
  obtain ⟨v0, vs0, d0, ds0, p0, q0, hargs, rfl, rfl, h0, r0⟩ := trodAll_cons hA
  obtain ⟨v1, vs1, d1, ds1, p1, q1, rfl, rfl, rfl, h1, r1⟩ := trodAll_cons r0
  obtain ⟨v2, vs2, d2, ds2, p2, q2, rfl, rfl, rfl, h2, r2⟩ := trodAll_cons r1
  obtain ⟨v3, vs3, d3, ds3, p3, q3, rfl, rfl, rfl, h3, r3⟩ := trodAll_cons r2
  obtain ⟨v4, vs4, d4, ds4, p4, q4, rfl, rfl, rfl, h4, r4⟩ := trodAll_cons r3
  obtain ⟨v5, vs5, d5, ds5, p5, q5, rfl, rfl, rfl, h5, r5⟩ := trodAll_cons r4
  obtain ⟨v6, vs6, d6, ds6, p6, q6, rfl, rfl, rfl, h6, r6⟩ := trodAll_cons r5
  obtain ⟨v7, vs7, d7, ds7, p7, q7, rfl, rfl, rfl, h7, r7⟩ := trodAll_cons r6
  obtain ⟨rfl, rfl, rfl⟩ := trodAll_nil r7
  obtain rfl : args = #[v0, v1, v2, v3, v4, v5, v6, v7] := by cases args; simp_all
  obtain ⟨rfl, rfl⟩ := trodVars_none hV
  obtain ⟨a0, len0, cap0, rfl⟩ := okWide_slice Yba.underlying22 (hval 0 22 v0 rfl rfl)
  have k0 := h0
  have lt0 : ∀ x ∈ p0, x.block < W.heap.size := by obtain ⟨m, hm⟩ := k0; exact DataW.trod_lt m _ _ _ hm
  obtain ⟨z0, w0⟩ : ∃ zs, IsRow .u8 W a0 len0 cap0 zs := by
    obtain ⟨fuel, hf⟩ := h0
    rcases open_ints Yba.underlying22 Yba.underlying5 (by kernel_rfl) hf with ⟨hcs, _⟩ | ⟨x, l, c, zs, hcs, _, hl, hm, hz, _, hcell, hwz⟩
    · simp [Value.cells] at hcs
      obtain ⟨rfl, rfl, rfl⟩ := hcs
      exact ⟨[], .inl ⟨rfl, rfl, rfl, rfl⟩⟩
    · simp [Value.cells] at hcs
      obtain ⟨rfl, rfl, rfl⟩ := hcs
      exact ⟨zs, .inr ⟨_, rfl, hl, hm, by simpa using hz, hcell, hwz⟩⟩
  obtain ⟨a1, rfl, rfl, rfl, w1⟩ := open_int Yba.underlying5 (hval 1 5 v1 rfl rfl) h1
  obtain ⟨a2, rfl, rfl, rfl, w2⟩ := open_int Yba.underlying5 (hval 2 5 v2 rfl rfl) h2
  obtain ⟨a3, rfl, rfl, rfl, w3⟩ := open_int Yba.underlying5 (hval 3 5 v3 rfl rfl) h3
  obtain ⟨a4, rfl, rfl, rfl, w4⟩ := open_int Yba.underlying5 (hval 4 5 v4 rfl rfl) h4
  obtain ⟨a5, rfl, rfl, rfl, w5⟩ := open_int Yba.underlying5 (hval 5 5 v5 rfl rfl) h5
  obtain ⟨a6, rfl, rfl, rfl, w6⟩ := open_int Yba.underlying5 (hval 6 5 v6 rfl rfl) h6
  obtain ⟨a7, rfl, rfl, rfl, w7⟩ := open_int Yba.underlying5 (hval 7 5 v7 rfl rfl) h7
  clear hA0 hval0
  refine (walk a0 len0 cap0 z0 a1 a2 a3 a4 a5 a6 a7 W w0 w1 w2 w3 w4 w5 w6 w7).mono fun e W' ⟨he, bel⟩ => ?_
  subst he
  exact ⟨_, rfl, _, _, _, [], _, [], hW', trodAll_mk1 (shut_bool Yba.underlying4 _), (trodAll_cons_mk (Below.trod laidOut (by kernel_rfl) (of_decide_eq_true (by kernel_rfl)) k0 bel lt0) (trodAll_cons_mk (shut_int Yba.underlying5 w1) (trodAll_cons_mk (shut_int Yba.underlying5 w2) (trodAll_cons_mk (shut_int Yba.underlying5 w3) (trodAll_cons_mk (shut_int Yba.underlying5 w4) (trodAll_cons_mk (shut_int Yba.underlying5 w5) (trodAll_cons_mk (shut_int Yba.underlying5 w6) (trodAll_cons_mk (shut_int Yba.underlying5 w7) trodAll_mk0)))))))), rfl, bel.frame _, fun h => by cases h⟩

theorem over : Rows.lawS1701CSourceRow.holds Yba.pinned (OpenSpec.ofChange Rows.lawS1701CSourceSpec) :=
  OpenClaim.holds_of_wide 3 Yba.f3 rfl rfl rfl rfl rfl rfl rfl ⟨rfl, rfl, rfl, rfl, rfl⟩ rfl rfl rfl rfl rfl (by kernel_rfl) Yba.func3 (by kernel_rfl)
    (of_decide_eq_true (by kernel_rfl)) (by unfold Func.isWrapper; first | (rw [if_pos (by decide +kernel)]; kernel_rfl) | (rw [if_neg (by decide +kernel)]; exact ⟨rfl, rfl⟩))
    (fun os started H enc _ => lifted os started H enc)

/-- ████ THE STATEMENT ████ -/
theorem source_proved : Rows.LawS1701CSourceSaid := over
end Go.Proofs.Ybulkaiey
