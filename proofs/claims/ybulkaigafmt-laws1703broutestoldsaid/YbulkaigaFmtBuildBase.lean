import Derived.Test.YbulkaigaFmtUnite
namespace Go.Proofs.YbulkaigaFmt
open Go.RowKit

set_option maxRecDepth 100000 in
set_option maxHeartbeats 4000000 in
theorem asns_any (pr : Int) (pa : Option Go.Addr) (la ca : Nat) (w : World) (h : la ≤ ca) (hb : la ≤ 9223372036854775807) :
    Calls Ybaf.prog 16 #[.agg #[.int .u16 pr, .slice pa la ca]] w fun e w' => e = .returned (.slice pa (min la 63) ca) ∧ w' = w.alloc (.cells #[.int .u16 pr, .slice pa la ca] 63) := by
  by_cases hl : 63 < la
  · have h1 : (63 : Int) < (la : Int) := by omega
    have h2 : (63 : Int) ≤ (ca : Int) := by omega
    have h3 : min la 63 = 63 := by omega
    rw [h3]
    go_enter Ybaf.func16, Ybaf.ntmps16
    go_wp2_with fail
    go_ret
    exact ⟨rfl, rfl⟩
  · have h1 : ¬ (63 : Int) < (la : Int) := by omega
    have h3 : min la 63 = la := by omega
    rw [h3]
    go_enter Ybaf.func16, Ybaf.ntmps16
    go_wp2_with fail
    go_ret
    exact ⟨rfl, rfl⟩

theorem below_own {w w' : World} {base e size n : Nat} {v : Value} {xs : List Value} (hb : base ≤ w.heap.size) (h : w.ownsRow base e size v n xs) (g : w.grownBy w' v.ownBlock) : Below base w w' :=
  ⟨g.os, g.tape, g.output, g.size, fun k hk => g.block k (by omega) (fun e => by have := (h.lt k e.symm).1; omega)⟩

theorem below_of_grown {w w' : World} {base : Nat} (hb : base ≤ w.heap.size) (g : w.grownBy w' none) : Below base w w' := ⟨g.os, g.tape, g.output, g.size, fun k hk => g.block k (by omega) (by simp)⟩

/-- Four cells of a row written. -/
theorem set4 {w : World} {b : Nat} {x y z t x' y' z' t' : Value} {ty : TypeId} (h : w.heap[b]? = some (.cells #[x', y', z', t'] ty (0, 0))) :
    ((((w.setCell ⟨b, 0, none⟩ x).setCell ⟨b, 1, none⟩ y).setCell ⟨b, 2, none⟩ z).setCell ⟨b, 3, none⟩ t).heap[b]? = some (.cells #[x, y, z, t] ty (0, 0)) := by
  have h1 := heap_setCell_same w b 0 _ ty x h
  have h2 := heap_setCell_same _ b 1 _ ty y h1
  have h3 := heap_setCell_same _ b 2 _ ty z h2
  exact heap_setCell_same _ b 3 _ ty t h3
theorem grown_set1 {w W : World} {b j : Nat} {u : Value} (h : w.grownBy W (some b)) : w.grownBy (W.setCell ⟨b, j, none⟩ u) (some b) :=
  ⟨h.os, h.tape, h.output, by simpa using h.size, fun k hk hr => (heap_setCell_other W ⟨b, j, none⟩ k u (fun e => hr (by simp only at e; rw [e]))).trans (h.block k hk hr)⟩
theorem grown_self (w : World) (b : Nat) : w.grownBy w (some b) := ⟨rfl, rfl, rfl, Nat.le_refl _, fun _ _ _ => rfl⟩

/-- The bytes that are laid so far. -/
structure Bod (wA w : World) (base : Nat) (v : Value) (n : Nat) (L : List Int) : Prop where
  hb : base ≤ w.heap.size
  own : w.ownsRow base 5 1 v n (bcells L)
  bel : Below base wA w
theorem Bod.len {wA w : World} {base n : Nat} {v : Value} {L : List Int} (h : Bod wA w base v n L) : L.length = n := by
  have := h.own.1
  rw [bcells_length] at this
  omega
theorem Bod.next {wA w w' : World} {base n n' : Nat} {v v' : Value} {L L' : List Int} (h : Bod wA w base v n L) (g : w.grownBy w' v.ownBlock) (o : w'.ownsRow base 5 1 v' n' (bcells L')) : Bod wA w' base v' n' L' :=
  ⟨Nat.le_trans h.hb g.size, o, h.bel.trans (below_own h.hb h.own g)⟩
theorem Bod.grown {wA w w' : World} {base n : Nat} {v : Value} {L : List Int} (h : Bod wA w base v n L) (g : w.grownBy w' none) : Bod wA w' base v n L :=
  ⟨Nat.le_trans h.hb g.size, h.own.kept g (by cases e : v.ownBlock <;> simp), h.bel.trans (below_of_grown h.hb g)⟩

/-- The entries as they lie in memory. -/
def EntMem (w : World) (p : Option Go.Addr) (E : List (Nat × List Int)) : Prop :=
  ∀ i pe, E[i]? = some pe → pe.1 ≤ 65535 ∧ pe.2.length ≤ 9223372036854775807 ∧ (∀ x ∈ pe.2, 0 ≤ x ∧ x ≤ 4294967295) ∧ ∃ b off pa ca, p = some ⟨b, off, none⟩ ∧ w.cell? ⟨b, off + 2 * i, none⟩ = some (.int .u16 (pe.1 : Int)) ∧ w.cell? ⟨b, off + 2 * i + 1, none⟩ = some (.slice pa pe.2.length ca) ∧ pe.2.length ≤ ca ∧
    ∀ j x, pe.2[j]? = some x → ∃ ba oa, pa = some ⟨ba, oa, none⟩ ∧ w.cell? ⟨ba, oa + j, none⟩ = some (.int .u32 x)
theorem EntMem.cells {w w' : World} {p : Option Go.Addr} {E : List (Nat × List Int)} (h : EntMem w p E) (k : ∀ a v, w.cell? a = some v → w'.cell? a = some v) : EntMem w' p E := by
  intro i pe he
  obtain ⟨h1, h2, h3, b, off, pa, ca, e1, e2, e3, e4, e5⟩ := h i pe he
  refine ⟨h1, h2, h3, b, off, pa, ca, e1, k _ _ e2, k _ _ e3, e4, fun j x hx => ?_⟩
  obtain ⟨ba, oa, f1, f2⟩ := e5 j x hx
  exact ⟨ba, oa, f1, k _ _ f2⟩

theorem own_base {w : World} {base b2 e size n : Nat} {v : Value} {xs : List Value} (h : w.ownsRow base e size v n xs) (hb : b2 ≤ base) : w.ownsRow b2 e size v n xs := by
  refine ⟨h.1, ?_⟩
  rcases h.2 with hn | ⟨g, cap, cur, e1, q, rest⟩
  · exact .inl hn
  · exact .inr ⟨g, cap, cur, e1, Nat.le_trans hb q, rest⟩
theorem own_ne {w : World} {base n g c e : Nat} {xs : List Value} {cs : Array Value} {fr : Nat × Nat} (h : w.ownsRow base 5 1 (.slice (some ⟨g, 0, none⟩) n c) n xs) (r : w.heap[e]? = some (.cells cs 63 fr)) : g ≠ e := by
  intro he
  subst he
  rcases h.2 with ⟨h1, _⟩ | ⟨g', c', cur, h1, _, h2, _⟩
  · cases h1
  · injection h1 with h1
    injection h1 with h1
    injection h1 with h1
    subst h1
    rw [h2] at r
    injection r with r
    injection r with _ r
    cases r
theorem row2 {w : World} {g : Nat} {a b : Value} {t : TypeId} (h : w.heap[g]? = some (.cells #[a, b] t (0, 0))) : w.cell? ⟨g, 0, none⟩ = some a ∧ w.cell? ⟨g, 1, none⟩ = some b :=
  ⟨by rw [cell_of_row w g 0 _ t (0, 0) h]; rfl, by rw [cell_of_row w g 1 _ t (0, 0) h]; rfl⟩
theorem arr_cell {w : World} {b kk : Nat} {f : Nat → Int} (h : w.heap[b]? = some (.cells #[.int .u8 (f 0), .int .u8 (f 1), .int .u8 (f 2), .int .u8 (f 3), .int .u8 (f 4), .int .u8 (f 5), .int .u8 (f 6), .int .u8 (f 7), .int .u8 (f 8), .int .u8 (f 9), .int .u8 (f 10), .int .u8 (f 11), .int .u8 (f 12), .int .u8 (f 13), .int .u8 (f 14), .int .u8 (f 15)] 28 (0, 0))) (hk : kk ≤ 16) {j : Nat} {u : Value} (hj : (bcells ((List.range kk).map f))[j]? = some u) : w.cell? ⟨b, 0 + j, none⟩ = some u := by
  rw [Nat.zero_add, cell_of_row w b j _ 28 (0, 0) h]
  have hlt := (List.getElem?_eq_some_iff.mp hj).1
  simp only [bcells, List.length_map, List.length_range] at hlt
  rw [bcells, List.map_map, List.getElem?_map, List.getElem?_range hlt] at hj
  simp only [Option.map_some, Option.some.injEq] at hj
  subst hj
  have h16 : j = 0 ∨ j = 1 ∨ j = 2 ∨ j = 3 ∨ j = 4 ∨ j = 5 ∨ j = 6 ∨ j = 7 ∨ j = 8 ∨ j = 9 ∨ j = 10 ∨ j = 11 ∨ j = 12 ∨ j = 13 ∨ j = 14 ∨ j = 15 := by omega
  rcases h16 with rfl | rfl | rfl | rfl | rfl | rfl | rfl | rfl | rfl | rfl | rfl | rfl | rfl | rfl | rfl | rfl <;> rfl

/-- An entry as it is encoded. -/
def entOf (np : Nat) (pe : Nat × List Int) : Ent := ⟨pe.1 % np, pe.2.take 63⟩
/-- What goes ahead of an entry's attributes. -/
def encHead (ap : Bool) (px : Nat) : List Int := be16 (px : Int) ++ ([0, 0, 0, 0] ++ (if ap then [0, 0, 0, 0] else []))
theorem enc_next {np x pr : Nat} {la : List Int} {E : List (Nat × List Int)} (h : E[x]? = some (pr, la)) (ap : Bool) :
    encAll ap ((E.take (x + 1)).map (entOf np)) = encAll ap ((E.take x).map (entOf np)) ++ (encHead ap (pr % np) ++ (be16 (attrLen (la.take 63) : Int) ++ attrBytes (la.take 63))) := by
  rw [List.take_add_one, h]
  simp [encAll, encEnt, encHead, entOf]
end Go.Proofs.YbulkaigaFmt
