import Derived.Test.YbulkaigaFmtEnc
namespace Go.Proofs.YbulkaigaFmt
open Go.RowKit

theorem attrs_any (base R g q c : Nat) (p : Option Go.Addr) (s : St) (l : List Int) (w : World) (hl : l.length ≤ 63) (hr : ∀ x ∈ l, 0 ≤ x ∧ x ≤ 4294967295) (hp : 0 < attrLen l → p = some ⟨g, q, none⟩) (hc : attrLen l ≤ c)
    (hg : g < w.heap.size) (ho : Out R s g) (hb : Lies w g q (attrBytes l)) (hnA : s.nA ≤ 900000) (hnS : s.nS ≤ 900000) (hQ : s.nQ = 0) (hx : s.xQ = []) (h : Bld w base R s) :
    Calls Ybaf.prog 33 #[.pointer (some ⟨R, 17, none⟩), .slice p (attrLen l) c, .int .i64 4] w fun e w' => ∃ path s', e = .returned (.tuple #[path, .slice none 0 0, .nilIface]) ∧
      Bld w' base R s' ∧ Keeps w w' R s s' ∧ s'.nQ = 0 ∧ s'.xQ = [] ∧ s'.nA ≤ s.nA + 63 ∧ s'.nS ≤ s.nS + 1 ∧ ∀ V : Value, (∀ k, V.ownBlock = some k → Out R s' k) → PathOK w' R s' V path l := by
  by_cases h0 : l.length = 0
  · have hl0 : l = [] := List.eq_nil_of_length_eq_zero h0
    have ha : attrLen l = 0 := by simp [attrLen, h0]
    rw [ha]
    refine (readAttributes_none R p c w).mono ?_
    rintro e w' ⟨rfl, rfl⟩
    exact ⟨_, s, rfl, h, Keeps.refl _ _ _, hQ, hx, by omega, by omega, fun V _ => .inl ⟨hl0, rfl⟩⟩
  · have ha : attrLen l = 5 + 4 * l.length := by simp [attrLen, h0]
    have hpp := hp (by omega)
    subst hpp
    rw [ha] at hc ⊢
    have hb2 : Lies w g q ([64, 2, 2 + 4 * (l.length : Int), 2, (l.length : Int)] ++ l.flatMap be32) := by
      have := hb
      unfold attrBytes at this
      rwa [if_neg h0] at this
    refine (readAttributes_one base R g q c s l w (by omega) hl hr hc hg ho hb2 hnA hnS hQ hx h).mono ?_
    rintro e w' ⟨gA, cA, gS, cS, Q', rfl, h5, k5⟩
    exact ⟨_, _, rfl, h5, k5, rfl, rfl, by show s.nA + l.length ≤ _; omega, Nat.le_refl _, fun V hV => path_ok (by omega) h5 hV⟩
end Go.Proofs.YbulkaigaFmt
