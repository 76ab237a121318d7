import Derived.OrdersHeld
import Derived.Deep.RegionHeld
namespace Go.Proofs.YbulkaigaFmt
open Go
section
variable {P : Program} {ops : Array Oper} {Q : Exit → Act → World → Prop} {md : Region.Mode} {S : World → Prop} {L : Nat}

/-- Operation L waits for operation i. -/
def waitsOn (md : Region.Mode) (ops : Array Oper) (L i : Nat) : Bool :=
  match ops[L]? with
  | some o => o.after.any fun e => Region.binds md e && e.on == i
  | none => false

/-- The kit's 'wpAnyH', with one thing less to show: behind operation L S need not hold. -/
def wpAnyL (P : Program) (md : Region.Mode) (ops : Array Oper) (Q : Exit → Act → World → Prop) (S : World → Prop) (L : Nat) : Nat → Array Bool → Act → World → Prop
  | 0, listed, a, w => Region.ready md ops listed = [] ∧ Q .normal a w
  | fuel + 1, listed, a, w =>
    (Region.ready md ops listed = [] → Q .normal a w) ∧
    ∀ i ∈ Region.ready md ops listed, wpOp P ops Q i (fun a' w' => (i ≠ L → S w') ∧ wpAnyL P md ops Q S L fuel (listed.setIfInBounds i true) a' w') a w

theorem wpAny_of_last : ∀ (fuel : Nat) (listed : Array Bool) (a : Act) (w : World), wpAnyL P md ops Q S L fuel listed a w → wpAny P md ops Q fuel listed a w
  | 0, _, _, _, h => h
  | fuel + 1, _, _, _, h => ⟨h.1, fun i hi => wpOp_mono (fun a' w' h' => wpAny_of_last fuel _ a' w' h'.2) (h.2 i hi)⟩

theorem wpAnyL_first {i : Nat} {oi : Oper} {v : Value} (hL : waitsOn md ops L i = true) (hi : ops[i]? = some oi) (hsel : ∀ (j : Nat) (o : Oper) cs b, ops[j]? = some o → o.op ≠ .select cs b)
    (hQ : ∀ c a w, Q (.panic c) (a.put oi.dst v) w → Q (.panic c) a w) :
    ∀ (fuel : Nat) (listed : Array Bool) (a : Act) (w : World),
      (∀ j oj, ops[j]? = some oj → j ≠ i → listed.getD j true = false → (∀ e ∈ oj.after, Region.binds md e = true → e.on ≠ i) → oi.apart ops oj = true) →
      i ∈ Region.ready md ops listed → YieldsIf P ops S oi v a → S w →
      wpAnyL P md ops Q S L fuel (listed.setIfInBounds i true) (a.put oi.dst v) w → wpAnyL P md ops Q S L (fuel + 1) listed a w := by
  intro fuel
  induction fuel with
  | zero =>
    intro listed a w _ hr hy hS H
    refine ⟨fun h => (by rw [h] at hr; cases hr), fun j hj => ?_⟩
    by_cases hji : j = i
    · subst hji; exact hy.wpOp hi hS ⟨fun _ => hS, H⟩
    · have := ready_mono hj hji
      rw [H.1] at this
      cases this
  | succ fuel ih =>
    intro listed a w hfree hr hy hS H
    refine ⟨fun h => (by rw [h] at hr; cases hr), fun j hj => ?_⟩
    by_cases hji : j = i
    · subst hji; exact hy.wpOp hi hS ⟨fun _ => hS, H⟩
    · have h1 := H.2 j (ready_mono hj hji)
      obtain ⟨hjun, oj, hoj, hall⟩ := mem_ready.1 hj
      have hnot : ∀ e ∈ oj.after, Region.binds md e = true → e.on ≠ i := fun e he hb heq => by
        have h1 := hall e he hb
        have h0 := (mem_ready.1 hr).1
        rw [heq] at h1
        rcases Nat.lt_or_ge i listed.size with h' | h'
        · simp [h'] at h0 h1; rw [h0] at h1; cases h1
        · simp [Array.getElem?_eq_none h'] at h1
      have hjL : j ≠ L := by
        intro e
        subst e
        unfold waitsOn at hL
        simp only [hoj, Array.any_eq_true'] at hL
        obtain ⟨e, he, hb⟩ := hL
        simp only [Bool.and_eq_true, beq_iff_eq] at hb
        exact hnot e he hb.1 hb.2
      have h2 := wpOp_putIf hoj (hfree j oj hoj hji hjun hnot) (fun cs b => hsel i oi cs b hi) (fun cs b => hsel j oj cs b hoj) hQ hy h1
      have hfree' : ∀ k ok, ops[k]? = some ok → k ≠ i → (listed.setIfInBounds j true).getD k true = false →
          (∀ e ∈ ok.after, Region.binds md e = true → e.on ≠ i) → oi.apart ops ok = true := fun k ok hk hki hun hno => by
        refine hfree k ok hk hki ?_ hno
        by_cases hjk : j = k
        · subst hjk; exact hjun
        · rw [getD_set_ne true hjk] at hun; exact hun
      refine wpOp_mono (fun a' w' h3 => ⟨fun _ => h3.2.1 hjL, ih (listed.setIfInBounds j true) a' w' hfree' (ready_mono hr (Ne.symm hji)) h3.1 (h3.2.1 hjL) ?_⟩) h2
      rw [Array.setIfInBounds_comm _ _ hji]
      exact h3.2.2

theorem wpAnyL_take {i : Nat} {oi : Oper} {v : Value} {fuel : Nat} {listed : Array Bool} {a : Act} {w : World} (hL : waitsOn md ops L i = true) (hi : ops[i]? = some oi)
    (hs : Region.noSelect ops = true) (hf : Region.free md ops listed i = true) (hr : (Region.ready md ops listed).contains i = true)
    (hQ : ∀ c a w, Q (.panic c) (a.put oi.dst v) w → Q (.panic c) a w) (hy : YieldsIf P ops S oi v a) (hS : S w)
    (h : wpAnyL P md ops Q S L fuel (listed.setIfInBounds i true) (a.put oi.dst v) w) : wpAnyL P md ops Q S L (fuel + 1) listed a w :=
  wpAnyL_first hL hi (Region.noSelect_spec hs) hQ fuel listed a w (Region.free_spec hi hf) (by simpa using hr) hy hS h

/-- The one operation that may come up comes up. -/
theorem wpAnyL_one {i : Nat} {o : Oper} {fuel : Nat} {listed : Array Bool} {a : Act} {w : World} (hr : Region.ready md ops listed = [i]) (ho : ops[i]? = some o)
    (h : ∀ K : Act → World → Prop, (∀ a' w', (i ≠ L → S w') → ((i ≠ L → S w') → wpAnyL P md ops Q S L fuel (listed.setIfInBounds i true) a' w') → K a' w') →
      if Region.wanted o (yielded ops a.tmps) = true then o.wp P a w K Q else K (a.put o.dst undef) w) :
    wpAnyL P md ops Q S L (fuel + 1) listed a w := by
  refine ⟨fun h0 => (by rw [hr] at h0; cases h0), ?_⟩
  rw [hr]
  intro j hj
  simp only [List.mem_singleton] at hj
  subst hj
  unfold wpOp
  simp only [ho]
  have h2 := h (fun a' w' => (j ≠ L → S w') ∧ wpAnyL P md ops Q S L fuel (listed.setIfInBounds j true) a' w') (fun a' w' h1 h2 => ⟨h1, h2 h1⟩)
  split
  · rename_i hw
    rw [if_pos hw] at h2
    exact .inl h2
  · rename_i hw
    rw [if_neg hw] at h2
    exact h2

theorem wpAnyL_done {listed : Array Bool} {a : Act} {w : World} (hr : Region.ready md ops listed = []) (h : Q .normal a w) :
    ∀ fuel, wpAnyL P md ops Q S L fuel listed a w
  | 0 => ⟨hr, h⟩
  | _ + 1 => ⟨fun _ => h, by rw [hr]; simp⟩

theorem at_of_drop {i : Nat} {o : Oper} {rest : List Oper} (h : ops.toList.drop i = o :: rest) : ops[i]? = some o := by
  have := congrArg List.head? h
  simpa [List.head?_drop] using this

/-- 'wpAnyL_take' with the operation read off the written row. -/
theorem wpAnyL_takeD (i : Nat) {oi : Oper} {rest : List Oper} {v : Value} {fuel : Nat} {listed : Array Bool} {a : Act} {w : World} (hL : waitsOn md ops L i = true) (hi : ops.toList.drop i = oi :: rest)
    (hs : Region.noSelect ops = true) (hf : Region.free md ops listed i = true) (hr : (Region.ready md ops listed).contains i = true)
    (hQ : ∀ c a w, Q (.panic c) (a.put oi.dst v) w → Q (.panic c) a w) (hw : Region.wanted oi (yielded ops a.tmps) = true) (hS : S w) (hy : ∀ w, S w → (execOp a.eval oi).run P w = .ok (.value v) w)
    (h : wpAnyL P md ops Q S L fuel (listed.setIfInBounds i true) (a.put oi.dst v) w) : wpAnyL P md ops Q S L (fuel + 1) listed a w :=
  wpAnyL_take hL (at_of_drop hi) hs hf hr hQ (.inl ⟨hw, hy⟩) hS h

theorem wpAnyL_oneD (i : Nat) {o : Oper} {rest : List Oper} {fuel : Nat} {listed : Array Bool} {a : Act} {w : World} (hr : Region.ready md ops listed = [i]) (ho : ops.toList.drop i = o :: rest)
    (h : ∀ K : Act → World → Prop, (∀ a' w', (i ≠ L → S w') → ((i ≠ L → S w') → wpAnyL P md ops Q S L fuel (listed.setIfInBounds i true) a' w') → K a' w') →
      if Region.wanted o (yielded ops a.tmps) = true then o.wp P a w K Q else K (a.put o.dst undef) w) :
    wpAnyL P md ops Q S L (fuel + 1) listed a w := wpAnyL_one hr (at_of_drop ho) h

theorem wp_region_last (S : World → Prop) (L : Nat) {id : Nat} {a : Act} {w : World} (hm : P.follows .mixedOrders = true) (hS : S w.drew)
    (h : S w.drew → wpAnyL P .any ops Q S L ops.size (Array.replicate ops.size false) a w.drew) : (Code.region id ops true).wp P Q a w :=
  wp_region_any hm (wpAny_of_last _ _ _ _ (h hS))
end
end Go.Proofs.YbulkaigaFmt
