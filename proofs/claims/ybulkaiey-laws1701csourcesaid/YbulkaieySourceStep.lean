import Derived.Test.YbulkaieySourceMake
namespace Go.Proofs.Ybulkaiey
open Go.RowKit

theorem HostMem.laid {wr : World} {T : Nat → Int} {c : Nat → Nat} {cl a a' rb cb eb : Nat} {pb : Option Addr} {cap : Nat} {u0 u1 u2 u3 : Value} {o1 o2 : Obj} (hm : HostMem wr T c cl a' rb cb eb pb cap) (ha : a' < a) (h1 : rb ≠ cl) (h2 : cb ≠ cl) (h3 : eb ≠ cl) (h4 : ∀ bb, pb = some ⟨bb, 0, none⟩ → bb ≠ cl) :
    HostMem (laidHost wr cl a u0 u1 u2 u3 o1 o2) T c cl a' rb cb eb pb cap := by
  have k : ∀ {p : Addr} {v : Value}, wr.cell? p = some v → (p.block ≠ cl ∨ p.off < a * 4 ∨ a * 4 + 3 < p.off) → (laidHost wr cl a u0 u1 u2 u3 o1 o2).cell? p = some v := fun h hne => (laidHost_cell (cell_block h) hne).trans h
  refine ⟨k hm.given (Or.inr (Or.inl (by simp; omega))), k hm.rows (Or.inr (Or.inl (by simp; omega))), k hm.chunks (Or.inl h1), k hm.shift (Or.inl h1), k hm.ends (Or.inl h1), k hm.ended (Or.inl h1), k hm.left (Or.inl h1), k hm.buf (Or.inl h2), hm.bufcap, fun j hj => k (hm.endAt j hj) (Or.inl h3), fun i x hx => ?_⟩
  obtain ⟨bb, e, c0, c1⟩ := hm.ent i x hx
  exact ⟨bb, e, k c0 (Or.inl (h4 bb e)), k c1 (Or.inl (h4 bb e))⟩

theorem laidHost_new {wr : World} {cl a : Nat} {u0 u1 u2 u3 v1 v3 : Value} {o1 : Obj} {cs : Array Value} {t : TypeId} {cs1 : Array Value} {t1 : TypeId} (hcl : cl < wr.heap.size)
    (h1 : wr.cell? ⟨cl, a * 4 + 1, none⟩ = some v1) (h3 : wr.cell? ⟨cl, a * 4 + 3, none⟩ = some v3) (ho : o1 = .cells cs1 t1) :
    (laidHost wr cl a u0 u1 u2 u3 o1 (.cells cs t)).cell? ⟨cl, a * 4 + 1, none⟩ = some u1 ∧ (laidHost wr cl a u0 u1 u2 u3 o1 (.cells cs t)).cell? ⟨cl, a * 4 + 3, none⟩ = some u3 ∧
    (∀ j, (laidHost wr cl a u0 u1 u2 u3 o1 (.cells cs t)).cell? ⟨wr.heap.size + 1, j, none⟩ = cs[j]?) ∧ (∀ j, (laidHost wr cl a u0 u1 u2 u3 o1 (.cells cs t)).cell? ⟨wr.heap.size, j, none⟩ = cs1[j]?) := by
  subst ho
  unfold laidHost
  have hx : ∀ j k : Nat, j ≠ k → (⟨cl, a * 4 + j, none⟩ : Addr) ≠ ⟨cl, a * 4 + k, none⟩ := fun j k hjk e => by injection e with _ e2; omega
  have hy : ∀ k : Nat, 0 ≠ k → (⟨cl, a * 4, none⟩ : Addr) ≠ ⟨cl, a * 4 + k, none⟩ := fun k hk e => by injection e with _ e2; omega
  refine ⟨?_, ?_, ?_, ?_⟩
  · rw [World.cell?_drew, ((Below.refl _ _).alloc (Nat.le_refl _) _).cell (by simp; omega), ((Below.refl _ _).alloc (Nat.le_refl _) _).cell (by simp; omega)]
    rw [World.cell?_setCell_other _ _ _ _ (hx 3 1 (by omega)), World.cell?_setCell_other _ _ _ _ (hx 2 1 (by omega))]
    exact World.cell?_setCell_same' _ _ _ (by rw [World.cell?_setCell_other _ _ _ _ (hy 1 (by omega)), h1]; rfl)
  · rw [World.cell?_drew, ((Below.refl _ _).alloc (Nat.le_refl _) _).cell (by simp; omega), ((Below.refl _ _).alloc (Nat.le_refl _) _).cell (by simp; omega)]
    exact World.cell?_setCell_same' _ _ _ (by rw [World.cell?_setCell_other _ _ _ _ (hx 2 3 (by omega)), World.cell?_setCell_other _ _ _ _ (hx 1 3 (by omega)), World.cell?_setCell_other _ _ _ _ (hy 3 (by omega)), h3]; rfl)
  · intro j
    rw [World.cell?_drew]
    exact World.cell?_alloc_at cs t _ j (by simp)
  · intro j
    rw [World.cell?_drew, ((Below.refl _ _).alloc (Nat.le_refl _) _).cell (by simp)]
    exact World.cell?_alloc_at cs1 t1 _ j (by simp)

theorem laidHost_below {wr : World} {cl a : Nat} {u0 u1 u2 u3 : Value} {o1 o2 : Obj} {B : Nat} {w : World} (h : Below B w wr) (hB : B ≤ cl) (hB2 : B ≤ wr.heap.size) : Below B w (laidHost wr cl a u0 u1 u2 u3 o1 o2) := by
  unfold laidHost
  exact (((((((h.setCell (by simpa using hB) _).setCell (by simpa using hB) _).setCell (by simpa using hB) _).setCell (by simpa using hB) _).alloc (by simpa using hB2) _).alloc (by simp; omega) _).drew)

theorem laidHost_size {wr : World} {cl a : Nat} {u0 u1 u2 u3 : Value} {o1 o2 : Obj} : (laidHost wr cl a u0 u1 u2 u3 o1 o2).heap.size = wr.heap.size + 1 + 1 := by
  unfold laidHost; simp

theorem Built.step {w ws wr : World} {T : Nat → Int} {c : Nat → Nat} {a cx LL cap : Nat} {pb : Option Addr} (h : Built w T c a wr) (hws : w.heap.size + 1 + 1 + 1 ≤ ws.heap.size) (hr : Rowing ws T c a cx (bufL T a cx) (.slice pb LL cap) wr) (hc : c a = cx) (hL : (bufL T a cx).length = LL) (ha : a < 3) :
    Built w T c (a + 1) (laidHost wr (w.heap.size + 1 + 1) a (.int .i64 (cx : Int)) (.int .i64 (cx : Int)) (.int .i64 14) (.pointer (some ⟨wr.heap.size + 1, 0, none⟩)) (.cells #[.slice pb LL cap] 27)
      (.cells #[.slice (some ⟨wr.heap.size, 0, none⟩) 1 1, .int .i64 14, .slice (some ⟨ws.heap.size, 0, none⟩) (cx + 1) (cx + 1), .int .i64 (cx : Int), .slice none 0 0, .int .i64 (-1)] 36)) := by
  have hsz := h.size
  have hrs := hr.size
  obtain ⟨v1, hv1⟩ := h.cl (a * 4 + 1) (by omega)
  obtain ⟨v3, hv3⟩ := h.cl (a * 4 + 3) (by omega)
  have hnew := laidHost_new (u0 := .int .i64 (cx : Int)) (u1 := .int .i64 (cx : Int)) (u2 := .int .i64 14) (u3 := .pointer (some ⟨wr.heap.size + 1, 0, none⟩))
    (cs := #[.slice (some ⟨wr.heap.size, 0, none⟩) 1 1, .int .i64 14, .slice (some ⟨ws.heap.size, 0, none⟩) (cx + 1) (cx + 1), .int .i64 (cx : Int), .slice none 0 0, .int .i64 (-1)]) (t := 36) (cs1 := #[.slice pb LL cap]) (t1 := 27) (by omega) hv1 hv3 rfl
  obtain ⟨n1, n3, nr, nb⟩ := hnew
  subst hc
  refine ⟨laidHost_below h.below (by omega) (by omega), by rw [laidHost_size]; omega, ?_, ?_, ?_, ?_, ?_⟩
  · intro i hi
    have := h.cnt i hi
    exact (laidHost_cell (cell_block this) (Or.inl (by show w.heap.size ≠ w.heap.size + 1 + 1; omega))).trans this
  · intro i hi
    have := h.tab i hi
    exact (laidHost_cell (cell_block this) (Or.inl (by show w.heap.size + 1 ≠ w.heap.size + 1 + 1; omega))).trans this
  · intro j hj
    obtain ⟨v, hv⟩ := h.cl j hj
    unfold laidHost
    obtain ⟨v', hv'⟩ := cell?_setCell_some (p := ⟨w.heap.size + 1 + 1, a * 4, none⟩) (x := .int .i64 (c a : Int)) hv
    obtain ⟨v', hv'⟩ := cell?_setCell_some (p := ⟨w.heap.size + 1 + 1, a * 4 + 1, none⟩) (x := .int .i64 (c a : Int)) hv'
    obtain ⟨v', hv'⟩ := cell?_setCell_some (p := ⟨w.heap.size + 1 + 1, a * 4 + 2, none⟩) (x := .int .i64 14) hv'
    obtain ⟨v', hv'⟩ := cell?_setCell_some (p := ⟨w.heap.size + 1 + 1, a * 4 + 3, none⟩) (x := .pointer (some ⟨wr.heap.size + 1, 0, none⟩)) hv'
    refine ⟨v', ?_⟩
    rw [World.cell?_drew, ((Below.refl _ _).alloc (Nat.le_refl _) _).cell (by simp; omega), ((Below.refl _ _).alloc (Nat.le_refl _) _).cell (by simp; omega)]
    exact hv'
  · intro j
    unfold laidHost
    show World.frozen? _ _ = false
    rw [show ∀ (X : World) (p : Addr), X.drew.frozen? p = X.frozen? p from fun _ _ => rfl, ((Below.refl _ _).alloc (Nat.le_refl _) _).frozen (by simp; omega), ((Below.refl _ _).alloc (Nat.le_refl _) _).frozen (by simp; omega)]
    simp [h.froz]
  · intro a' ha'
    by_cases e : a' = a
    · subst e
      have hown := hr.own
      rw [hL] at hown
      refine ⟨wr.heap.size + 1, wr.heap.size, ws.heap.size, pb, cap, ?_, by omega, by omega, by omega, ?_⟩
      · refine ⟨n1, n3, nr 0, nr 1, nr 2, nr 3, nr 4, ?_, ?_, ?_, ?_⟩
        · rw [hL]; exact nb 0
        · rw [hL]
          rcases hown.2 with ⟨e1, e2⟩ | ⟨g, cap', cur, e1, _, _, hle, _, _, _⟩
          · omega
          · injection e1 with _ _ e3
            omega
        · intro k hk
          have := hr.ends k hk
          rw [if_pos hk] at this
          exact (laidHost_cell (cell_block this) (Or.inl (by simp; omega))).trans this
        · intro i x hx
          have hi : i < LL := by rw [← hL]; exact (List.getElem?_eq_some_iff.1 hx).1
          obtain ⟨g, cap', e1, hg1, hg2⟩ := hown.form (by omega)
          injection e1 with e2 _ e3
          subst e2 e3
          have hf := flat_at _ i x hx
          have c0 := hown.cellAt (i * 2) (by omega)
          have c1 := hown.cellAt (i * 2 + 1) (by omega)
          rw [hf.1] at c0
          rw [hf.2] at c1
          exact ⟨g, rfl, (laidHost_cell (cell_block c0) (Or.inl (by simp; omega))).trans c0, (laidHost_cell (cell_block c1) (Or.inl (by simp; omega))).trans c1⟩
      · intro bb e1
        subst e1
        have := (hown.lt bb rfl).1
        omega
    · obtain ⟨rb, cb, eb, pb', cap', hm, r1, r2, r3, r4⟩ := h.host a' (by omega)
      exact ⟨rb, cb, eb, pb', cap', hm.laid (by omega) r1 r2 r3 r4, r1, r2, r3, r4⟩
end Go.Proofs.Ybulkaiey
