import Derived.Test.YbulkaieySourceFind
import Derived.Deep.AppendLies
namespace Go.Proofs.Ybulkaiey
open Go.RowKit

theorem Yba.info38 : Yba.prog.info? 38 = some Yba.t38 := by kernel_rfl
theorem Yba.info31 : Yba.prog.info? 31 = some Yba.t31 := by kernel_rfl
theorem Yba.info30 : Yba.prog.info? 30 = some Yba.t30 := by kernel_rfl
/-- Three empty hostClocks. -/
def clCells : Array Value := madeCells #[.int .i64 0, .int .i64 0, .int .i64 0, .pointer none] 12
theorem clCells_at (j : Nat) (h : j < 12) : ∃ v, clCells[j]? = some v := by
  unfold clCells
  have : (madeCells #[.int .i64 0, .int .i64 0, .int .i64 0, .pointer none] 12).size = 12 := size_madeCells _ _
  exact ⟨_, Array.getElem?_eq_getElem (by omega)⟩
theorem make_cl (w : World) : (Instr.makeSlice 26 (.int .i64 3) (.int .i64 3)).run Yba.prog w = .ok (.slice (some ⟨w.heap.size, 0, none⟩) 3 3) (w.alloc (.cells clCells 38)) := by
  have h := run_make (P := Yba.prog) w 26 38 Yba.t38 (.agg #[.int .i64 0, .int .i64 0, .int .i64 0, .pointer none]) Yba.underlying26 Yba.info38 rfl .i64 .i64 3 3 (by decide) (by decide) (by decide) (by decide)
  exact h
/-- n zeros. -/
def endCells (n : Nat) : Array Value := madeCells #[.int .u32 0] n
theorem endCells_at (n j : Nat) (h : j < n) : (endCells n)[j]? = some (.int .u32 0) := by
  unfold endCells
  have hs : (madeCells #[Value.int .u32 0] n).size = n := size_madeCells _ _
  rw [Array.getElem?_eq_getElem (by omega)]
  unfold madeCells
  simp [Nat.mod_one]
theorem make_ends (n : Nat) (hn : n ≤ 5) (w : World) : (Instr.makeSlice 28 (.int .i64 (n : Int)) (.int .i64 (n : Int))).run Yba.prog w = .ok (.slice (some ⟨w.heap.size, 0, none⟩) n n) (w.alloc (.cells (endCells n) 31)) := by
  have hb : (Yba.t31.bytes : Int) * (n : Int) ≤ 281474976710656 := by
    have : Yba.t31.bytes = 4 := rfl
    rw [this]; omega
  have h := run_make (P := Yba.prog) w 28 31 Yba.t31 (.int .u32 0) Yba.underlying28 Yba.info31 rfl .i64 .i64 n n (by omega) (by omega) hb (by omega)
  have hs : Yba.t31.size = 1 := rfl
  rw [hs] at h
  simpa [endCells, Value.cells] using h

/-- A list of entries as cells. -/
def flat (R : List (Nat × Int)) : List Value := R.flatMap fun e => [.int .i32 (e.1 : Int), .int .i32 e.2]
theorem flat_snoc (R : List (Nat × Int)) (e : Nat × Int) : flat (R ++ [e]) = flat R ++ [.int .i32 (e.1 : Int), .int .i32 e.2] := by simp [flat]
theorem flat_at : ∀ (R : List (Nat × Int)) (i : Nat) (e : Nat × Int), R[i]? = some e → (flat R)[i * 2]? = some (.int .i32 (e.1 : Int)) ∧ (flat R)[i * 2 + 1]? = some (.int .i32 e.2)
  | [], i, e, h => by simp at h
  | x :: R, 0, e, h => by
    simp at h
    subst h
    simp [flat]
  | x :: R, i + 1, e, h => by
    simp at h
    have := flat_at R i e h
    have e1 : flat (x :: R) = .int .i32 (x.1 : Int) :: .int .i32 x.2 :: flat R := by simp [flat]
    rw [e1, show (i + 1) * 2 = i * 2 + 1 + 1 from by omega]
    simpa using this

/-- Behind the tables: the first a hosts' clocks lie in memory. -/
structure Built (w : World) (T : Nat → Int) (c : Nat → Nat) (a : Nat) (wr : World) : Prop where
  below : Below w.heap.size w wr
  size : w.heap.size + 1 + 1 + 1 ≤ wr.heap.size
  cnt : CntMem wr c w.heap.size
  tab : TabMem wr T (w.heap.size + 1)
  cl : ∀ j, j < 12 → ∃ v, wr.cell? ⟨w.heap.size + 1 + 1, j, none⟩ = some v
  froz : ∀ j, wr.frozen? ⟨w.heap.size + 1 + 1, j, none⟩ = false
  host : ∀ a', a' < a → ∃ rb cb eb pb cap, HostMem wr T c (w.heap.size + 1 + 1) a' rb cb eb pb cap ∧ rb ≠ w.heap.size + 1 + 1 ∧ cb ≠ w.heap.size + 1 + 1 ∧ eb ≠ w.heap.size + 1 + 1 ∧ ∀ bb, pb = some ⟨bb, 0, none⟩ → bb ≠ w.heap.size + 1 + 1

theorem Built.after {w : World} {T : Nat → Int} {c : Nat → Nat} {a : Nat} {wr w' : World} (h : Built w T c a wr) (hB : Below wr.heap.size wr w') : Built w T c a w' :=
  ⟨h.below.trans (hB.mono (by have := h.size; omega)), Nat.le_trans h.size hB.size, h.cnt.below hB, h.tab.below hB, fun j hj => by obtain ⟨v, hv⟩ := h.cl j hj; exact ⟨v, cell_keep hB hv⟩,
    fun j => (hB.frozen (p := ⟨w.heap.size + 1 + 1, j, none⟩) (by have := h.size; simp; omega)).trans (h.froz j),
    fun a' ha' => by obtain ⟨rb, cb, eb, pb, cap, hm, r⟩ := h.host a' ha'; exact ⟨rb, cb, eb, pb, cap, hm.below hB, r⟩⟩

/-- In the making of host a's clocks: the entries so far, the ends of the rows up to k. -/
structure Rowing (ws : World) (T : Nat → Int) (c : Nat → Nat) (a k : Nat) (R : List (Nat × Int)) (bv : Value) (wk : World) : Prop where
  below : Below ws.heap.size ws wk
  size : ws.heap.size + 1 ≤ wk.heap.size
  own : wk.ownsRow (ws.heap.size + 1) 30 2 bv R.length (flat R)
  ends : ∀ j, j ≤ c a → wk.cell? ⟨ws.heap.size, j, none⟩ = some (.int .u32 (if j ≤ k then ((bufL T a j).length : Int) else 0))
  froz : ∀ j, wk.frozen? ⟨ws.heap.size, j, none⟩ = false

theorem rowTo_skip {T : Nat → Int} {a k g : Nat} (h : ¬ (g ≠ a ∧ t3 T a k g ≠ 0)) : rowTo T a k (g + 1) = rowTo T a k g := by
  show rowTo T a k g ++ _ = _
  rw [if_neg h, List.append_nil]
theorem rowTo_add {T : Nat → Int} {a k g : Nat} (h1 : g ≠ a) (h2 : t3 T a k g ≠ 0) : rowTo T a k (g + 1) = rowTo T a k g ++ [(g, t3 T a k g)] := by
  show rowTo T a k g ++ _ = _
  rw [if_pos ⟨h1, h2⟩]
theorem Rowing.append {ws : World} {T : Nat → Int} {c : Nat → Nat} {a k : Nat} {R : List (Nat × Int)} {bv bv' : Value} {wk w1 : World} (h : Rowing ws T c a k R bv wk) (e : Nat × Int) (o : Obj) (hg : (wk.alloc o).grownBy w1 bv.ownBlock)
    (ho : w1.ownsRow (ws.heap.size + 1) 30 2 bv' (R.length + 1) (flat R ++ [.int .i32 (e.1 : Int), .int .i32 e.2])) : Rowing ws T c a k (R ++ [e]) bv' w1 := by
  have hb : ∀ j, bv.ownBlock = some j → ws.heap.size + 1 ≤ j := fun j hj => (h.own.lt j hj).1
  have hsz := h.size
  have hz := hg.size
  have hfar : ∀ j, w1.cell? ⟨ws.heap.size, j, none⟩ = wk.cell? ⟨ws.heap.size, j, none⟩ := fun j =>
    (hg.cell_far ⟨ws.heap.size, j, none⟩ (by simp; omega) (fun e => by have := hb _ e.symm; simp at this; omega)).trans (((Below.refl _ wk).alloc (Nat.le_refl _) o).cell (p := ⟨ws.heap.size, j, none⟩) (by simp; omega))
  have hfarf : ∀ j, w1.frozen? ⟨ws.heap.size, j, none⟩ = wk.frozen? ⟨ws.heap.size, j, none⟩ := fun j =>
    (hg.frozen_far ⟨ws.heap.size, j, none⟩ (by simp; omega) (fun e => by have := hb _ e.symm; simp at this; omega)).trans (((Below.refl _ wk).alloc (Nat.le_refl _) o).frozen (p := ⟨ws.heap.size, j, none⟩) (by simp; omega))
  refine ⟨(h.below.alloc (by omega) _).grown hg (by simp; omega) (fun j hj => by have := hb j hj; omega), by simp at hz; omega, ?_, fun j hj => (hfar j).trans (h.ends j hj), fun j => (hfarf j).trans (h.froz j)⟩
  rw [flat_snoc, List.length_append]
  exact ho
theorem flat_one (R : List (Nat × Int)) : ∀ u ∈ flat R, u.oneCell' = true := by
  intro u hu
  simp [flat] at hu
  obtain ⟨a, b, _, h | h⟩ := hu <;> subst h <;> rfl

theorem Rowing.close {ws : World} {T : Nat → Int} {c : Nat → Nat} {a k : Nat} {bv : Value} {wk : World} (h : Rowing ws T c a k (bufL T a k ++ rowTo T a (k + 1) 3) bv wk) (hk : k + 1 ≤ c a) :
    Rowing ws T c a (k + 1) (bufL T a (k + 1)) bv (wk.setCell ⟨ws.heap.size, k + 1, none⟩ (.int .u32 ((bufL T a (k + 1)).length : Int))) := by
  refine ⟨h.below.setCell (by simp) _, by simp [h.size], ownsRow_setCell_below h.own (by simp) _, ?_, fun j => by simp [h.froz]⟩
  intro j hj
  by_cases e : j = k + 1
  · subst e
    rw [if_pos (Nat.le_refl _)]
    exact World.cell?_setCell_same _ _ _ (h.ends _ hk)
  · rw [World.cell?_setCell_other _ _ _ _ (fun e2 => e (by injection e2 with _ e3; exact e3.symm)), h.ends j hj]
    by_cases e3 : j ≤ k
    · rw [if_pos e3, if_pos (by omega)]
    · rw [if_neg e3, if_neg (by omega)]

/-- The world behind the statement that lays host a's clocks. -/
def laidHost (wr : World) (cl a : Nat) (u0 u1 u2 u3 : Value) (o1 o2 : Obj) : World :=
  ((((((wr.setCell ⟨cl, a * 4, none⟩ u0).setCell ⟨cl, a * 4 + 1, none⟩ u1).setCell ⟨cl, a * 4 + 2, none⟩ u2).setCell ⟨cl, a * 4 + 3, none⟩ u3).alloc o1).alloc o2).drew
theorem laidHost_cell {wr : World} {cl a : Nat} {u0 u1 u2 u3 : Value} {o1 o2 : Obj} {p : Addr} (hp : p.block < wr.heap.size) (hne : p.block ≠ cl ∨ p.off < a * 4 ∨ a * 4 + 3 < p.off) : (laidHost wr cl a u0 u1 u2 u3 o1 o2).cell? p = wr.cell? p := by
  unfold laidHost
  rw [World.cell?_drew]
  rw [((Below.refl _ _).alloc (Nat.le_refl _) o2).cell (by simp; omega), ((Below.refl _ _).alloc (Nat.le_refl _) o1).cell (by simp; omega)]
  have hh : ∀ j, j ≤ 3 → (⟨cl, a * 4 + j, none⟩ : Addr) ≠ p := fun j hj e => by
    subst e
    simp at hne
    omega
  rw [World.cell?_setCell_other _ _ _ _ (hh 3 (by omega)), World.cell?_setCell_other _ _ _ _ (hh 2 (by omega)), World.cell?_setCell_other _ _ _ _ (hh 1 (by omega))]
  exact World.cell?_setCell_other _ _ _ _ (hh 0 (by omega))
theorem keep6 {wr : World} {cl a : Nat} {u0 u1 u2 u3 v : Value} {o1 o2 : Obj} {p : Addr} (hp : p.block < wr.heap.size) (hne : p.block ≠ cl) (h : wr.cell? p = some v) :
    ((((((wr.setCell ⟨cl, a * 4, none⟩ u0).setCell ⟨cl, a * 4 + 1, none⟩ u1).setCell ⟨cl, a * 4 + 2, none⟩ u2).setCell ⟨cl, a * 4 + 3, none⟩ u3).alloc o1).alloc o2).drew.cell? p = some v :=
  (laidHost_cell (u0 := u0) (u1 := u1) (u2 := u2) (u3 := u3) (o1 := o1) (o2 := o2) hp (Or.inl hne)).trans h
end Go.Proofs.Ybulkaiey
