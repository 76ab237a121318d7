import Derived.Test.YbulkaigaFmtRows
import Derived.Test.YbulkaigaFmtAppend
import Derived.Test.YbulkaigaFmtBytes
import Derived.WalkKit
import Derived.WalkSpells
import Derived.WalkLawsBesides
import Derived.WalkSmall
import Derived.Deep.QuietTactic
import Derived.BigQuiet
namespace Go.Proofs.YbulkaigaFmt
open Go.RowKit

/-- What a path builder holds: its three rows, how long each is and what lies in it. -/
structure St where
  A : Value
  S : Value
  Q : Value
  nA : Nat
  nS : Nat
  nQ : Nat
  xA : List Value
  xS : List Value
  xQ : List Value

/-- A block that is neither the reader's nor one of the builder's rows. -/
def Out (R : Nat) (s : St) (k : Nat) : Prop := k ≠ R ∧ s.A.ownBlock ≠ some k ∧ s.S.ownBlock ≠ some k ∧ s.Q.ownBlock ≠ some k

/-- A cell that the builder will not write: it lies outside its rows, or below the length of the numbers' or of the segments' row. -/
def Still (R : Nat) (s : St) (p : Go.Addr) : Prop :=
  p.block ≠ R ∧ s.Q.ownBlock ≠ some p.block ∧ (s.A.ownBlock = some p.block → p.off < s.nA) ∧ (s.S.ownBlock = some p.block → p.off < s.nS * 2)

structure Keeps (w w' : World) (R : Nat) (s s' : St) : Prop where
  os : w'.os = w.os
  tape : w'.tape = w.tape
  output : w'.output = w.output
  size : w.heap.size ≤ w'.heap.size
  out : ∀ k, k < w.heap.size → Out R s k → w'.heap[k]? = w.heap[k]? ∧ Out R s' k
  still : ∀ p : Go.Addr, p.block < w.heap.size → Still R s p → w'.cell? p = w.cell? p ∧ Still R s' p
  rest : ∀ j, j ≠ 17 → j ≠ 18 → j ≠ 19 → w'.cell? ⟨R, j, none⟩ = w.cell? ⟨R, j, none⟩

theorem Keeps.trans {w w' w'' : World} {R : Nat} {s s' s'' : St} (h : Keeps w w' R s s') (k : Keeps w' w'' R s' s'') : Keeps w w'' R s s'' where
  os := k.os.trans h.os
  tape := k.tape.trans h.tape
  output := k.output.trans h.output
  size := Nat.le_trans h.size k.size
  out i hi ho := ⟨((k.out i (Nat.lt_of_lt_of_le hi h.size) (h.out i hi ho).2).1).trans (h.out i hi ho).1, (k.out i (Nat.lt_of_lt_of_le hi h.size) (h.out i hi ho).2).2⟩
  still p hp ho := ⟨((k.still p (Nat.lt_of_lt_of_le hp h.size) (h.still p hp ho).2).1).trans (h.still p hp ho).1, (k.still p (Nat.lt_of_lt_of_le hp h.size) (h.still p hp ho).2).2⟩
  rest j a b c := (k.rest j a b c).trans (h.rest j a b c)

theorem Keeps.refl (w : World) (R : Nat) (s : St) : Keeps w w R s s :=
  ⟨rfl, rfl, rfl, Nat.le_refl _, fun _ _ h => ⟨rfl, h⟩, fun _ _ h => ⟨rfl, h⟩, fun _ _ _ _ => rfl⟩

/-- A world that grew and changed no block. -/
theorem Keeps.grown {w w' : World} {R : Nat} {s : St} (hR : R < w.heap.size) (g : w.grownBy w' none) : Keeps w w' R s s where
  os := g.os
  tape := g.tape
  output := g.output
  size := g.size
  out k hk h := ⟨g.block k hk (by simp), h⟩
  still p hp h := ⟨World.cell?_of_block (g.block p.block hp (by simp)), h⟩
  rest j _ _ _ := World.cell?_of_block (a := ⟨R, j, none⟩) (g.block R hR (by simp))

/-- The reader's block and the builder's rows, as they lie in memory. -/
structure Bld (w : World) (base R : Nat) (s : St) : Prop where
  hR : R < base
  hb : base ≤ w.heap.size
  row : ∃ cur, w.heap[R]? = some (.cells cur 59 (0, 0)) ∧ cur.size = 22
  cA : w.cell? ⟨R, 17, none⟩ = some s.A
  cS : w.cell? ⟨R, 18, none⟩ = some s.S
  cQ : w.cell? ⟨R, 19, none⟩ = some s.Q
  oA : w.ownsRow base 27 1 s.A s.nA s.xA
  oS : w.ownsRow base 70 2 s.S s.nS s.xS
  oQ : w.ownsRow base 121 2 s.Q s.nQ s.xQ
  AS : ∀ k, s.A.ownBlock = some k → s.S.ownBlock ≠ some k
  AQ : ∀ k, s.A.ownBlock = some k → s.Q.ownBlock ≠ some k
  SQ : ∀ k, s.S.ownBlock = some k → s.Q.ownBlock ≠ some k

section
variable {w w' : World} {base R : Nat} {s : St}

theorem Bld.RltH (h : Bld w base R s) : R < w.heap.size := Nat.lt_of_lt_of_le h.hR h.hb

theorem Bld.grown (h : Bld w base R s) (g : w.grownBy w' none) : Bld w' base R s where
  hR := h.hR
  hb := Nat.le_trans h.hb g.size
  row := by obtain ⟨cur, e, n⟩ := h.row; exact ⟨cur, (g.block R h.RltH (by simp)).trans e, n⟩
  cA := g.cell h.cA (by simp)
  cS := g.cell h.cS (by simp)
  cQ := g.cell h.cQ (by simp)
  oA := h.oA.kept g (by cases h : s.A.ownBlock <;> simp)
  oS := h.oS.kept g (by cases h : s.S.ownBlock <;> simp)
  oQ := h.oQ.kept g (by cases h : s.Q.ownBlock <;> simp)
  AS := h.AS
  AQ := h.AQ
  SQ := h.SQ

theorem Bld.frozen (h : Bld w base R s) (j : Nat) : w.frozen? ⟨R, j, none⟩ = false := by
  obtain ⟨cur, e, _⟩ := h.row
  exact frozen_of_row w R j cur 59 e

theorem Bld.ltA (h : Bld w base R s) {k : Nat} (e : s.A.ownBlock = some k) : R < k ∧ k < w.heap.size := ⟨Nat.lt_of_lt_of_le h.hR (h.oA.lt k e).1, (h.oA.lt k e).2⟩
theorem Bld.ltS (h : Bld w base R s) {k : Nat} (e : s.S.ownBlock = some k) : R < k ∧ k < w.heap.size := ⟨Nat.lt_of_lt_of_le h.hR (h.oS.lt k e).1, (h.oS.lt k e).2⟩
theorem Bld.ltQ (h : Bld w base R s) {k : Nat} (e : s.Q.ownBlock = some k) : R < k ∧ k < w.heap.size := ⟨Nat.lt_of_lt_of_le h.hR (h.oQ.lt k e).1, (h.oQ.lt k e).2⟩

/-- A store into the reader's block grows by that block. -/
theorem store_grown (w : World) (R j : Nat) (u : Value) : w.grownBy (w.setCell ⟨R, j, none⟩ u) (some R) :=
  ⟨rfl, rfl, rfl, by simp, fun k _ hk => heap_setCell_other w ⟨R, j, none⟩ k u (fun e => hk (by simp [e]))⟩

theorem row_stored {w : World} {R j : Nat} {u : Value} (h : ∃ cur, w.heap[R]? = some (.cells cur 59 (0, 0)) ∧ cur.size = 22) :
    ∃ cur, (w.setCell ⟨R, j, none⟩ u).heap[R]? = some (.cells cur 59 (0, 0)) ∧ cur.size = 22 := by
  obtain ⟨cur, e, n⟩ := h
  exact ⟨_, heap_setCell_same w R j cur 59 u e, by simpa using n⟩

theorem cell_stored {w : World} {R j : Nat} {u : Value} (h : ∃ cur, w.heap[R]? = some (.cells cur 59 (0, 0)) ∧ cur.size = 22) (hj : j < 22) :
    (w.setCell ⟨R, j, none⟩ u).cell? ⟨R, j, none⟩ = some u := by
  obtain ⟨cur, e, n⟩ := h
  rw [cell_of_row _ R j _ 59 (0, 0) (heap_setCell_same w R j cur 59 u e)]
  simp [n, hj]

theorem cell_stored_other {w : World} {R j i : Nat} {u : Value} (h : ∃ cur, w.heap[R]? = some (.cells cur 59 (0, 0)) ∧ cur.size = 22) (hj : i ≠ j) :
    (w.setCell ⟨R, j, none⟩ u).cell? ⟨R, i, none⟩ = w.cell? ⟨R, i, none⟩ := by
  obtain ⟨cur, e, n⟩ := h
  rw [cell_of_row _ R i _ 59 (0, 0) (heap_setCell_same w R j cur 59 u e), cell_of_row w R i cur 59 (0, 0) e]
  simp [Ne.symm hj]

theorem own_grown {b : Nat} {e size n : Nat} {v : Value} {xs : List Value} (h : w.ownsRow base e size v n xs) (g : w.grownBy w' (some b)) (hne : v.ownBlock ≠ some b) : w'.ownsRow base e size v n xs :=
  h.kept g (.inr hne)

/-- After an append to the numbers' row and the store of the new row: the builder holds one number more, and the rest is kept. -/
theorem Bld.pushA (h : Bld w base R s) {g cap : Nat} {u : Value} (hg : w.grownBy w' s.A.ownBlock)
    (ho : w'.ownsRow base 27 1 (.slice (some ⟨g, 0, none⟩) (s.nA + 1) cap) (s.nA + 1) (s.xA ++ [u]))
    (hat : s.A.ownBlock = some g ∨ g = w.heap.size) (hk : ∀ b j, s.A.ownBlock = some b → j < s.nA * 1 → w'.cell? ⟨b, j, none⟩ = w.cell? ⟨b, j, none⟩) :
    Bld (w'.setCell ⟨R, 17, none⟩ (.slice (some ⟨g, 0, none⟩) (s.nA + 1) cap)) base R { s with A := .slice (some ⟨g, 0, none⟩) (s.nA + 1) cap, nA := s.nA + 1, xA := s.xA ++ [u] } ∧
    Keeps w (w'.setCell ⟨R, 17, none⟩ (.slice (some ⟨g, 0, none⟩) (s.nA + 1) cap)) R s { s with A := .slice (some ⟨g, 0, none⟩) (s.nA + 1) cap, nA := s.nA + 1, xA := s.xA ++ [u] } := by
  have hRA : s.A.ownBlock ≠ some R := fun e => by have := (h.ltA e).1; omega
  have hRS : s.S.ownBlock ≠ some R := fun e => by have := (h.ltS e).1; omega
  have hRQ : s.Q.ownBlock ≠ some R := fun e => by have := (h.ltQ e).1; omega
  have hgR : g ≠ R := by have := (ho.lt g rfl).1; have := h.hR; omega
  have hblk : w'.heap[R]? = w.heap[R]? := hg.block R h.RltH (fun e => hRA e.symm)
  have hrow : ∃ cur, w'.heap[R]? = some (.cells cur 59 (0, 0)) ∧ cur.size = 22 := by rw [hblk]; exact h.row
  have hst : w'.grownBy (w'.setCell ⟨R, 17, none⟩ (.slice (some ⟨g, 0, none⟩) (s.nA + 1) cap)) (some R) :=
    ⟨rfl, rfl, rfl, by simp, fun k _ hk => heap_setCell_other w' ⟨R, 17, none⟩ k _ (fun e => hk (by simp [e]))⟩
  have hnew : ∀ k, k < w.heap.size → s.A.ownBlock ≠ some k → g ≠ k := by
    intro k hk hne e
    subst e
    rcases hat with e | e
    · exact hne e
    · omega
  refine ⟨⟨h.hR, Nat.le_trans h.hb (Nat.le_trans hg.size hst.size), row_stored hrow, cell_stored hrow (by omega), ?_, ?_, ?_, ?_, ?_, ?_, ?_, h.SQ⟩, ?_⟩
  · rw [cell_stored_other hrow (by omega), World.cell?_of_block (a := ⟨R, 18, none⟩) hblk]; exact h.cS
  · rw [cell_stored_other hrow (by omega), World.cell?_of_block (a := ⟨R, 19, none⟩) hblk]; exact h.cQ
  · exact own_grown ho hst (by simp [Value.ownBlock, hgR])
  · refine own_grown (h.oS.kept hg ?_) hst hRS
    cases e : s.S.ownBlock with
    | none => exact .inl rfl
    | some k => exact .inr (fun e2 => h.AS k e2.symm e)
  · refine own_grown (h.oQ.kept hg ?_) hst hRQ
    cases e : s.Q.ownBlock with
    | none => exact .inl rfl
    | some k => exact .inr (fun e2 => h.AQ k e2.symm e)
  · intro k ek es
    simp only [Value.ownBlock, Option.some.injEq] at ek
    exact hnew k (h.ltS es).2 (fun e => h.AS k e es) ek
  · intro k ek es
    simp only [Value.ownBlock, Option.some.injEq] at ek
    exact hnew k (h.ltQ es).2 (fun e => h.AQ k e es) ek
  · refine ⟨hst.os.trans hg.os, hst.tape.trans hg.tape, hst.output.trans hg.output, Nat.le_trans hg.size hst.size, ?_, ?_, ?_⟩
    · rintro k hk ⟨o1, o2, o3, o4⟩
      refine ⟨(hst.block k (Nat.lt_of_lt_of_le hk hg.size) (by simpa using o1)).trans (hg.block k hk (fun e => o2 e.symm)), o1, ?_, o3, o4⟩
      simp only [Value.ownBlock, ne_eq, Option.some.injEq]
      exact hnew k hk o2
    · rintro ⟨b, j, f⟩ hp ⟨o1, o2, o3, o4⟩
      have e1 : (w'.setCell ⟨R, 17, none⟩ (.slice (some ⟨g, 0, none⟩) (s.nA + 1) cap)).cell? ⟨b, j, f⟩ = w'.cell? ⟨b, j, f⟩ := World.cell?_of_block (hst.block b (Nat.lt_of_lt_of_le hp hg.size) (by simpa using o1))
      refine ⟨e1.trans ?_, o1, o2, ?_, o4⟩
      · by_cases hA : s.A.ownBlock = some b
        · have := hk b j hA (by simpa using o3 hA)
          cases f with
          | none => exact this
          | some m => simp only [World.cell?, Option.isSome_some, if_true]; split <;> split <;> rfl
        · exact World.cell?_of_block (a := ⟨b, j, f⟩) (hg.block b hp (fun e => hA e.symm))
      · intro e
        simp only [Value.ownBlock, Option.some.injEq] at e
        subst e
        rcases hat with e | e
        · exact Nat.lt_succ_of_lt (o3 e)
        · simp at hp; omega
    · intro j a b c
      rw [cell_stored_other hrow a]
      exact World.cell?_of_block (a := ⟨R, j, none⟩) hblk
/-- After an append to the segments' row and the store of the new row: the builder holds one segment more, and the rest is kept. -/
theorem Bld.pushS (h : Bld w base R s) {g cap : Nat} {u u2 : Value} (hg : w.grownBy w' s.S.ownBlock)
    (ho : w'.ownsRow base 70 2 (.slice (some ⟨g, 0, none⟩) (s.nS + 1) cap) (s.nS + 1) (s.xS ++ [u, u2]))
    (hat : s.S.ownBlock = some g ∨ g = w.heap.size) (hk : ∀ b j, s.S.ownBlock = some b → j < s.nS * 2 → w'.cell? ⟨b, j, none⟩ = w.cell? ⟨b, j, none⟩) :
    Bld (w'.setCell ⟨R, 18, none⟩ (.slice (some ⟨g, 0, none⟩) (s.nS + 1) cap)) base R { s with S := .slice (some ⟨g, 0, none⟩) (s.nS + 1) cap, nS := s.nS + 1, xS := s.xS ++ [u, u2] } ∧
    Keeps w (w'.setCell ⟨R, 18, none⟩ (.slice (some ⟨g, 0, none⟩) (s.nS + 1) cap)) R s { s with S := .slice (some ⟨g, 0, none⟩) (s.nS + 1) cap, nS := s.nS + 1, xS := s.xS ++ [u, u2] } := by
  have hRA : s.A.ownBlock ≠ some R := fun e => by have := (h.ltA e).1; omega
  have hRS : s.S.ownBlock ≠ some R := fun e => by have := (h.ltS e).1; omega
  have hRQ : s.Q.ownBlock ≠ some R := fun e => by have := (h.ltQ e).1; omega
  have hgR : g ≠ R := by have := (ho.lt g rfl).1; have := h.hR; omega
  have hblk : w'.heap[R]? = w.heap[R]? := hg.block R h.RltH (fun e => hRS e.symm)
  have hrow : ∃ cur, w'.heap[R]? = some (.cells cur 59 (0, 0)) ∧ cur.size = 22 := by rw [hblk]; exact h.row
  have hst : w'.grownBy (w'.setCell ⟨R, 18, none⟩ (.slice (some ⟨g, 0, none⟩) (s.nS + 1) cap)) (some R) :=
    ⟨rfl, rfl, rfl, by simp, fun k _ hk => heap_setCell_other w' ⟨R, 18, none⟩ k _ (fun e => hk (by simp [e]))⟩
  have hnew : ∀ k, k < w.heap.size → s.S.ownBlock ≠ some k → g ≠ k := by
    intro k hk hne e
    subst e
    rcases hat with e | e
    · exact hne e
    · omega
  refine ⟨⟨h.hR, Nat.le_trans h.hb (Nat.le_trans hg.size hst.size), row_stored hrow, ?_, cell_stored hrow (by omega), ?_, ?_, ?_, ?_, ?_, h.AQ, ?_⟩, ?_⟩
  · rw [cell_stored_other hrow (by omega), World.cell?_of_block (a := ⟨R, 17, none⟩) hblk]; exact h.cA
  · rw [cell_stored_other hrow (by omega), World.cell?_of_block (a := ⟨R, 19, none⟩) hblk]; exact h.cQ
  · refine own_grown (h.oA.kept hg ?_) hst hRA
    cases e : s.A.ownBlock with
    | none => exact .inl rfl
    | some k => exact .inr (fun e2 => h.AS k e e2.symm)
  · exact own_grown ho hst (by simp [Value.ownBlock, hgR])
  · refine own_grown (h.oQ.kept hg ?_) hst hRQ
    cases e : s.Q.ownBlock with
    | none => exact .inl rfl
    | some k => exact .inr (fun e2 => h.SQ k e2.symm e)
  · intro k es ek
    simp only [Value.ownBlock, Option.some.injEq] at ek
    exact hnew k (h.ltA es).2 (fun e => h.AS k es e) ek
  · intro k ek es
    simp only [Value.ownBlock, Option.some.injEq] at ek
    exact hnew k (h.ltQ es).2 (fun e => h.SQ k e es) ek
  · refine ⟨hst.os.trans hg.os, hst.tape.trans hg.tape, hst.output.trans hg.output, Nat.le_trans hg.size hst.size, ?_, ?_, ?_⟩
    · rintro k hk ⟨o1, o2, o3, o4⟩
      refine ⟨(hst.block k (Nat.lt_of_lt_of_le hk hg.size) (by simpa using o1)).trans (hg.block k hk (fun e => o3 e.symm)), o1, o2, ?_, o4⟩
      simp only [Value.ownBlock, ne_eq, Option.some.injEq]
      exact hnew k hk o3
    · rintro ⟨b, j, f⟩ hp ⟨o1, o2, o3, o4⟩
      have e1 : (w'.setCell ⟨R, 18, none⟩ (.slice (some ⟨g, 0, none⟩) (s.nS + 1) cap)).cell? ⟨b, j, f⟩ = w'.cell? ⟨b, j, f⟩ := World.cell?_of_block (hst.block b (Nat.lt_of_lt_of_le hp hg.size) (by simpa using o1))
      refine ⟨e1.trans ?_, o1, o2, o3, ?_⟩
      · by_cases hA : s.S.ownBlock = some b
        · have := hk b j hA (o4 hA)
          cases f with
          | none => exact this
          | some m => simp only [World.cell?, Option.isSome_some, if_true]; split <;> split <;> rfl
        · exact World.cell?_of_block (a := ⟨b, j, f⟩) (hg.block b hp (fun e => hA e.symm))
      · intro e
        simp only [Value.ownBlock, Option.some.injEq] at e
        subst e
        rcases hat with e | e
        · have := o4 e; simp only [] at this ⊢; omega
        · simp at hp; omega
    · intro j a b c
      rw [cell_stored_other hrow b]
      exact World.cell?_of_block (a := ⟨R, j, none⟩) hblk

/-- After an append to the spans' row and the store of the new row. -/
theorem Bld.pushQ (h : Bld w base R s) {g cap : Nat} {u u2 : Value} (hg : w.grownBy w' s.Q.ownBlock)
    (ho : w'.ownsRow base 121 2 (.slice (some ⟨g, 0, none⟩) (s.nQ + 1) cap) (s.nQ + 1) (s.xQ ++ [u, u2]))
    (hat : s.Q.ownBlock = some g ∨ g = w.heap.size) :
    Bld (w'.setCell ⟨R, 19, none⟩ (.slice (some ⟨g, 0, none⟩) (s.nQ + 1) cap)) base R { s with Q := .slice (some ⟨g, 0, none⟩) (s.nQ + 1) cap, nQ := s.nQ + 1, xQ := s.xQ ++ [u, u2] } ∧
    Keeps w (w'.setCell ⟨R, 19, none⟩ (.slice (some ⟨g, 0, none⟩) (s.nQ + 1) cap)) R s { s with Q := .slice (some ⟨g, 0, none⟩) (s.nQ + 1) cap, nQ := s.nQ + 1, xQ := s.xQ ++ [u, u2] } := by
  have hRA : s.A.ownBlock ≠ some R := fun e => by have := (h.ltA e).1; omega
  have hRS : s.S.ownBlock ≠ some R := fun e => by have := (h.ltS e).1; omega
  have hRQ : s.Q.ownBlock ≠ some R := fun e => by have := (h.ltQ e).1; omega
  have hgR : g ≠ R := by have := (ho.lt g rfl).1; have := h.hR; omega
  have hblk : w'.heap[R]? = w.heap[R]? := hg.block R h.RltH (fun e => hRQ e.symm)
  have hrow : ∃ cur, w'.heap[R]? = some (.cells cur 59 (0, 0)) ∧ cur.size = 22 := by rw [hblk]; exact h.row
  have hst : w'.grownBy (w'.setCell ⟨R, 19, none⟩ (.slice (some ⟨g, 0, none⟩) (s.nQ + 1) cap)) (some R) := store_grown _ _ _ _
  have hnew : ∀ k, k < w.heap.size → s.Q.ownBlock ≠ some k → g ≠ k := by
    intro k hk hne e
    subst e
    rcases hat with e | e
    · exact hne e
    · omega
  refine ⟨⟨h.hR, Nat.le_trans h.hb (Nat.le_trans hg.size hst.size), row_stored hrow, ?_, ?_, cell_stored hrow (by omega), ?_, ?_, ?_, h.AS, ?_, ?_⟩, ?_⟩
  · rw [cell_stored_other hrow (by omega), World.cell?_of_block (a := ⟨R, 17, none⟩) hblk]; exact h.cA
  · rw [cell_stored_other hrow (by omega), World.cell?_of_block (a := ⟨R, 18, none⟩) hblk]; exact h.cS
  · refine own_grown (h.oA.kept hg ?_) hst hRA
    cases e : s.A.ownBlock with
    | none => exact .inl rfl
    | some k => exact .inr (fun e2 => h.AQ k e e2.symm)
  · refine own_grown (h.oS.kept hg ?_) hst hRS
    cases e : s.S.ownBlock with
    | none => exact .inl rfl
    | some k => exact .inr (fun e2 => h.SQ k e e2.symm)
  · exact own_grown ho hst (by simp [Value.ownBlock, hgR])
  · intro k es ek
    simp only [Value.ownBlock, Option.some.injEq] at ek
    exact hnew k (h.ltA es).2 (fun e => h.AQ k es e) ek
  · intro k es ek
    simp only [Value.ownBlock, Option.some.injEq] at ek
    exact hnew k (h.ltS es).2 (fun e => h.SQ k es e) ek
  · refine ⟨hst.os.trans hg.os, hst.tape.trans hg.tape, hst.output.trans hg.output, Nat.le_trans hg.size hst.size, ?_, ?_, ?_⟩
    · rintro k hk ⟨o1, o2, o3, o4⟩
      refine ⟨(hst.block k (Nat.lt_of_lt_of_le hk hg.size) (by simpa using o1)).trans (hg.block k hk (fun e => o4 e.symm)), o1, o2, o3, ?_⟩
      simp only [Value.ownBlock, ne_eq, Option.some.injEq]
      exact hnew k hk o4
    · rintro ⟨b, j, f⟩ hp ⟨o1, o2, o3, o4⟩
      have e1 : (w'.setCell ⟨R, 19, none⟩ (.slice (some ⟨g, 0, none⟩) (s.nQ + 1) cap)).cell? ⟨b, j, f⟩ = w'.cell? ⟨b, j, f⟩ := World.cell?_of_block (hst.block b (Nat.lt_of_lt_of_le hp hg.size) (by simpa using o1))
      refine ⟨e1.trans (World.cell?_of_block (a := ⟨b, j, f⟩) (hg.block b hp (fun e => o2 e.symm))), o1, ?_, o3, o4⟩
      simp only [Value.ownBlock, ne_eq, Option.some.injEq]
      exact hnew b hp o2
    · intro j a b c
      rw [cell_stored_other hrow c]
      exact World.cell?_of_block (a := ⟨R, j, none⟩) hblk

/-- The spans' row, cut to nothing and stored. -/
theorem Bld.cutQ (h : Bld w base R s) {g cap : Nat} (hQ : s.Q = .slice (some ⟨g, 0, none⟩) s.nQ cap) :
    Bld (w.setCell ⟨R, 19, none⟩ (.slice (some ⟨g, 0, none⟩) 0 cap)) base R { s with Q := .slice (some ⟨g, 0, none⟩) 0 cap, nQ := 0, xQ := [] } ∧
    Keeps w (w.setCell ⟨R, 19, none⟩ (.slice (some ⟨g, 0, none⟩) 0 cap)) R s { s with Q := .slice (some ⟨g, 0, none⟩) 0 cap, nQ := 0, xQ := [] } := by
  have hRA : s.A.ownBlock ≠ some R := fun e => by have := (h.ltA e).1; omega
  have hRS : s.S.ownBlock ≠ some R := fun e => by have := (h.ltS e).1; omega
  have hRQ : s.Q.ownBlock ≠ some R := fun e => by have := (h.ltQ e).1; omega
  have hrow := h.row
  have hst : w.grownBy (w.setCell ⟨R, 19, none⟩ (.slice (some ⟨g, 0, none⟩) 0 cap)) (some R) := store_grown _ _ _ _
  have hown : s.Q.ownBlock = some g := by rw [hQ]; rfl
  refine ⟨⟨h.hR, Nat.le_trans h.hb hst.size, row_stored hrow, ?_, ?_, cell_stored hrow (by omega), own_grown h.oA hst hRA, own_grown h.oS hst hRS, ?_, h.AS, ?_, ?_⟩, ?_⟩
  · rw [cell_stored_other hrow (by omega)]; exact h.cA
  · rw [cell_stored_other hrow (by omega)]; exact h.cS
  · have h2 := own_grown h.oQ hst hRQ
    refine ⟨by simp, ?_⟩
    rcases h2.2 with ⟨e, _⟩ | ⟨g', cap', cur, e, q1, q2, q3, q4, q5, q6⟩
    · rw [hQ] at e; simp at e
    · rw [hQ] at e
      simp only [Value.slice.injEq, Option.some.injEq, Addr.mk.injEq, and_true, true_and] at e
      obtain ⟨rfl, rfl⟩ := e
      exact .inr ⟨g, cap, cur, rfl, q1, q2, Nat.zero_le _, q4, q5, by simp⟩
  · intro k ek
    have := h.AQ k ek
    rw [hown] at this
    exact this
  · intro k ek
    have := h.SQ k ek
    rw [hown] at this
    exact this
  · refine ⟨rfl, rfl, rfl, hst.size, ?_, ?_, ?_⟩
    · rintro k hk ⟨o1, o2, o3, o4⟩
      rw [hown] at o4
      exact ⟨hst.block k hk (by simpa using o1), o1, o2, o3, o4⟩
    · rintro p hp ⟨o1, o2, o3, o4⟩
      rw [hown] at o2
      exact ⟨World.cell?_of_block (hst.block p.block hp (by simpa using o1)), o1, o2, o3, o4⟩
    · intro j a b c
      exact cell_stored_other hrow c
end
end Go.Proofs.YbulkaigaFmt
