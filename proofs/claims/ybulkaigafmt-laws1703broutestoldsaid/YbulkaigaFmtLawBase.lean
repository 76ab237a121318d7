import Derived.Test.YbulkaigaFmtRib
import Derived.Test.YbulkaigaFmtRibHead
namespace Go.Proofs.YbulkaigaFmt
open Go.RowKit

/-- A builder that holds nothing. -/
def St.fresh : St := ⟨.slice none 0 0, .slice none 0 0, .slice none 0 0, 0, 0, 0, [], [], []⟩

/-- The cells of a new reader. -/
def readerCells (V Pe : Value) : Array Value :=
  #[.pointer none, .int .i64 0, .bool false, .int .u8 0, .int .u8 0, .int .u8 0, .int .u8 0, .int .u8 0, .int .u8 0, .int .u8 0, .int .u8 0, .int .u8 0, .int .u8 0, .int .u8 0, .int .u8 0, .slice none 0 0, V,
    .slice none 0 0, .slice none 0 0, .slice none 0 0, .int .i64 0, Pe]

theorem reader_rib {W : World} {R bV nR : Nat} {V Pe : Value} {xR : List Value} (h : W.heap[R]? = some (.cells (readerCells V Pe) 59 (0, 0))) (hb : bV ≤ W.heap.size) (hV : W.ownsRow bV 51 7 V nR xR) (hne : V.ownBlock ≠ some R) :
    Rib W W.heap.size bV R St.fresh V nR xR ∧ W.cell? ⟨R, 21, none⟩ = some Pe := by
  have hR : R < W.heap.size := (Array.getElem?_eq_some_iff.1 h).1
  have hc : ∀ j, W.cell? ⟨R, j, none⟩ = (readerCells V Pe)[j]? := fun j => cell_of_row W R j _ 59 (0, 0) h
  refine ⟨⟨⟨hR, Nat.le_refl _, ⟨_, h, rfl⟩, hc 17, hc 18, hc 19, World.ownsRow_nil _ _ _ _, World.ownsRow_nil _ _ _ _, World.ownsRow_nil _ _ _ _, ?_, ?_, ?_⟩, hb, hc 16, hV, ?_⟩, hc 21⟩
  · intro k e; cases e
  · intro k e; cases e
  · intro k e; cases e
  · intro k e
    refine ⟨fun e2 => hne (by rw [← e2]; exact e), ?_, ?_, ?_⟩ <;> intro e2 <;> cases e2

theorem out_none {R k : Nat} (h : k ≠ R) : Out R St.fresh k := by
  refine ⟨h, ?_, ?_, ?_⟩ <;> intro e <;> cases e

/-- Owned bytes lie in their block. -/
theorem own_lies {w : World} {base n g c : Nat} {L : List Int} (h : w.ownsRow base 5 1 (.slice (some ⟨g, 0, none⟩) n c) n (bcells L)) : Lies w g 0 L := by
  intro j z hj
  have hl := h.1
  rw [bcells_length] at hl
  have hj2 := (List.getElem?_eq_some_iff.mp hj).1
  have := h.cellAt j (by omega)
  rw [Nat.zero_add, this, bcells, List.getElem?_map, hj]
  rfl

theorem held_below {w W w' : World} {R : Nat} {V : Value} {s' : St} {V' : Value} (g : w.grownBy W none) (h : Held W w' R St.fresh V s' V') (hR : w.heap.size ≤ R) (hV : ∀ k, V.ownBlock = some k → w.heap.size ≤ k) : Below w.heap.size w w' :=
  ⟨h.os.trans g.os, h.tape.trans g.tape, h.output.trans g.output, Nat.le_trans g.size h.size, fun k hk =>
    (h.out k (Nat.lt_of_lt_of_le hk g.size) (out_none (by omega)) (fun e => by have := hV k e; omega)).1.trans (g.block k hk (by simp))⟩
end Go.Proofs.YbulkaigaFmt
