import Derived.Test.YbulkaigaFmtAttrs
import Derived.Test.YbulkaigaFmtPrefix3
namespace Go.Proofs.YbulkaigaFmt
open Go.RowKit
theorem Ybaf.info51 : Ybaf.prog.info? 51 = some Ybaf.t51 := by kernel_rfl

/-- The reader's memory: its path builder, and the row of its routes. -/
structure Rib (w : World) (base bV R : Nat) (s : St) (V : Value) (nR : Nat) (xR : List Value) : Prop where
  bld : Bld w base R s
  hbV : bV ≤ w.heap.size
  cV : w.cell? ⟨R, 16, none⟩ = some V
  oV : w.ownsRow bV 51 7 V nR xR
  out : ∀ k, V.ownBlock = some k → Out R s k

/-- What the reader's work leaves as it was. -/
structure Held (w w' : World) (R : Nat) (s : St) (V : Value) (s' : St) (V' : Value) : Prop where
  os : w'.os = w.os
  tape : w'.tape = w.tape
  output : w'.output = w.output
  size : w.heap.size ≤ w'.heap.size
  out : ∀ k, k < w.heap.size → Out R s k → V.ownBlock ≠ some k → w'.heap[k]? = w.heap[k]? ∧ Out R s' k ∧ V'.ownBlock ≠ some k
  still : ∀ p : Go.Addr, p.block < w.heap.size → Still R s p → V.ownBlock ≠ some p.block → w'.cell? p = w.cell? p ∧ Still R s' p ∧ V'.ownBlock ≠ some p.block
  rest : ∀ j, j ≠ 16 → j ≠ 17 → j ≠ 18 → j ≠ 19 → w'.cell? ⟨R, j, none⟩ = w.cell? ⟨R, j, none⟩

section
variable {w w' w'' : World} {base bV R : Nat} {s s' s'' : St} {V V' V'' : Value} {nR : Nat} {xR : List Value}

theorem Held.trans (h : Held w w' R s V s' V') (k : Held w' w'' R s' V' s'' V'') : Held w w'' R s V s'' V'' where
  os := k.os.trans h.os
  tape := k.tape.trans h.tape
  output := k.output.trans h.output
  size := Nat.le_trans h.size k.size
  out i hi ho hv :=
    let a := h.out i hi ho hv
    let b := k.out i (Nat.lt_of_lt_of_le hi h.size) a.2.1 a.2.2
    ⟨b.1.trans a.1, b.2⟩
  still p hp ho hv :=
    let a := h.still p hp ho hv
    let b := k.still p (Nat.lt_of_lt_of_le hp h.size) a.2.1 a.2.2
    ⟨b.1.trans a.1, b.2⟩
  rest j a b c d := (k.rest j a b c d).trans (h.rest j a b c d)

theorem Held.refl (w : World) (R : Nat) (s : St) (V : Value) : Held w w R s V s V :=
  ⟨rfl, rfl, rfl, Nat.le_refl _, fun _ _ h v => ⟨rfl, h, v⟩, fun _ _ h v => ⟨rfl, h, v⟩, fun _ _ _ _ _ => rfl⟩

theorem Keeps.held (h : Keeps w w' R s s') (V : Value) : Held w w' R s V s' V where
  os := h.os
  tape := h.tape
  output := h.output
  size := h.size
  out k hk ho hv := ⟨(h.out k hk ho).1, (h.out k hk ho).2, hv⟩
  still p hp ho hv := ⟨(h.still p hp ho).1, (h.still p hp ho).2, hv⟩
  rest j _ a b c := h.rest j a b c

theorem Held.grown (hR : R < w.heap.size) (g : w.grownBy w' none) : Held w w' R s V s V := (Keeps.grown hR g).held V

theorem own_block {b e size n : Nat} {v : Value} {xs : List Value} (h : w.ownsRow b e size v n xs) (hb : ∀ k, v.ownBlock = some k → w'.heap[k]? = w.heap[k]?) : w'.ownsRow b e size v n xs := by
  refine ⟨h.1, ?_⟩
  rcases h.2 with hn | ⟨g, cap, cur, rfl, q, hgg, rest⟩
  · exact .inl hn
  · exact .inr ⟨g, cap, cur, rfl, q, (hb g rfl).trans hgg, rest⟩

theorem Rib.ltV (h : Rib w base bV R s V nR xR) {k : Nat} (e : V.ownBlock = some k) : k < w.heap.size := (h.oV.lt k e).2

theorem Rib.keeps (h : Rib w base bV R s V nR xR) (k : Keeps w w' R s s') (b : Bld w' base R s') : Rib w' base bV R s' V nR xR where
  bld := b
  hbV := Nat.le_trans h.hbV k.size
  cV := (k.rest 16 (by omega) (by omega) (by omega)).trans h.cV
  oV := own_block h.oV (fun i e => (k.out i (h.ltV e) (h.out i e)).1)
  out i e := (k.out i (h.ltV e) (h.out i e)).2

theorem Rib.grown (h : Rib w base bV R s V nR xR) (g : w.grownBy w' none) : Rib w' base bV R s V nR xR :=
  h.keeps (Keeps.grown h.bld.RltH g) (h.bld.grown g)

theorem Rib.front (h : Rib w base bV R s V nR xR) (hg : w.grownBy w' V.ownBlock) (j : Nat) : w'.cell? ⟨R, j, none⟩ = w.cell? ⟨R, j, none⟩ ∧ w'.frozen? ⟨R, j, none⟩ = false := by
  have hb : w'.heap[R]? = w.heap[R]? := hg.block R h.bld.RltH (fun e => (h.out R e.symm).1 rfl)
  exact ⟨World.cell?_of_block (a := ⟨R, j, none⟩) hb, (World.frozen?_of_block (a := ⟨R, j, none⟩) hb).trans (h.bld.frozen j)⟩

/-- A route more, and the store of the new row. -/
theorem Rib.push (h : Rib w base bV R s V nR xR) {g cap : Nat} {us : List Value} (hg : w.grownBy w' V.ownBlock)
    (ho : w'.ownsRow bV 51 7 (.slice (some ⟨g, 0, none⟩) (nR + 1) cap) (nR + 1) (xR ++ us)) (hat : V.ownBlock = some g ∨ g = w.heap.size) :
    Rib (w'.setCell ⟨R, 16, none⟩ (.slice (some ⟨g, 0, none⟩) (nR + 1) cap)) base bV R s (.slice (some ⟨g, 0, none⟩) (nR + 1) cap) (nR + 1) (xR ++ us) ∧
    Held w (w'.setCell ⟨R, 16, none⟩ (.slice (some ⟨g, 0, none⟩) (nR + 1) cap)) R s V s (.slice (some ⟨g, 0, none⟩) (nR + 1) cap) := by
  have hRA : s.A.ownBlock ≠ some R := fun e => by have := (h.bld.ltA e).1; omega
  have hRS : s.S.ownBlock ≠ some R := fun e => by have := (h.bld.ltS e).1; omega
  have hRQ : s.Q.ownBlock ≠ some R := fun e => by have := (h.bld.ltQ e).1; omega
  have hRl := h.bld.RltH
  have hout : Out R s g := by
    rcases hat with e | e
    · exact h.out g e
    · refine ⟨by omega, fun e2 => ?_, fun e2 => ?_, fun e2 => ?_⟩
      · have := (h.bld.ltA e2).2; omega
      · have := (h.bld.ltS e2).2; omega
      · have := (h.bld.ltQ e2).2; omega
  have hblk : w'.heap[R]? = w.heap[R]? := hg.block R hRl (fun e => (h.out R e.symm).1 rfl)
  have hrow : ∃ cur, w'.heap[R]? = some (.cells cur 59 (0, 0)) ∧ cur.size = 22 := by rw [hblk]; exact h.bld.row
  have hst := store_grown w' R 16 (.slice (some ⟨g, 0, none⟩) (nR + 1) cap)
  have kept : ∀ {e size n : Nat} {v : Value} {xs : List Value}, w.ownsRow base e size v n xs → (∀ k, V.ownBlock = some k → v.ownBlock ≠ some k) → v.ownBlock ≠ some R → (w'.setCell ⟨R, 16, none⟩ (.slice (some ⟨g, 0, none⟩) (nR + 1) cap)).ownsRow base e size v n xs := by
    intro e size n v xs hv hne hR
    refine own_grown (hv.kept hg ?_) hst hR
    cases ev : v.ownBlock with
    | none => exact .inl rfl
    | some k => exact .inr (fun e2 => hne k e2.symm ev)
  refine ⟨⟨⟨h.bld.hR, Nat.le_trans h.bld.hb (Nat.le_trans hg.size hst.size), row_stored hrow, ?_, ?_, ?_, ?_, ?_, ?_, h.bld.AS, h.bld.AQ, h.bld.SQ⟩, Nat.le_trans h.hbV (Nat.le_trans hg.size hst.size), cell_stored hrow (by omega), ?_, ?_⟩, ?_⟩
  · rw [cell_stored_other hrow (by omega), World.cell?_of_block (a := ⟨R, 17, none⟩) hblk]; exact h.bld.cA
  · rw [cell_stored_other hrow (by omega), World.cell?_of_block (a := ⟨R, 18, none⟩) hblk]; exact h.bld.cS
  · rw [cell_stored_other hrow (by omega), World.cell?_of_block (a := ⟨R, 19, none⟩) hblk]; exact h.bld.cQ
  · exact kept h.bld.oA (fun k e => (h.out k e).2.1) hRA
  · exact kept h.bld.oS (fun k e => (h.out k e).2.2.1) hRS
  · exact kept h.bld.oQ (fun k e => (h.out k e).2.2.2) hRQ
  · exact own_grown ho hst (by simp only [Value.ownBlock, ne_eq, Option.some.injEq]; exact hout.1)
  · intro k e
    simp only [Value.ownBlock, Option.some.injEq] at e
    rw [← e]
    exact hout
  · have hgne : ∀ k, k < w.heap.size → V.ownBlock ≠ some k → g ≠ k := by
      intro k hk hv e
      subst e
      rcases hat with e | e
      · exact hv e
      · omega
    refine ⟨hg.os, hg.tape, hg.output, Nat.le_trans hg.size hst.size, ?_, ?_, ?_⟩
    · intro k hk hO hv
      refine ⟨?_, hO, ?_⟩
      · rw [hst.block k (Nat.lt_of_lt_of_le hk hg.size) (by simp only [ne_eq, Option.some.injEq]; exact hO.1)]
        exact hg.block k hk (fun e => hv e.symm)
      · simp only [Value.ownBlock, ne_eq, Option.some.injEq]
        exact hgne k hk hv
    · intro p hp hO hv
      refine ⟨?_, hO, ?_⟩
      · rw [World.cell?_of_block (hst.block p.block (Nat.lt_of_lt_of_le hp hg.size) (by simp only [ne_eq, Option.some.injEq]; exact hO.1))]
        exact World.cell?_of_block (hg.block p.block hp (fun e => hv e.symm))
      · simp only [Value.ownBlock, ne_eq, Option.some.injEq]
        exact hgne p.block hp hv
    · intro j a _ _ _
      rw [cell_stored_other hrow a]
      exact World.cell?_of_block (a := ⟨R, j, none⟩) hblk
end
end Go.Proofs.YbulkaigaFmt
