import Derived.Test.YbulkaigaFmtLoop5
import Derived.Test.YbulkaigaFmtMaskLaw
import Derived.Test.YbulkaigaFmtLawBase
import Derived.Laws.Closers25b
namespace Go.Proofs.YbulkaigaFmt
open Go.RowKit

theorem bits_u64 (op : BinOp) (a b : Int) : 0 ≤ bits op .u64 a b ∧ bits op .u64 a b ≤ 18446744073709551615 := by
  have h := bits_within op .u64 a b
  have h1 : IntKind.u64.min = 0 := by kernel_rfl
  have h2 : IntKind.u64.max = 18446744073709551615 := by kernel_rfl
  rw [h1, h2] at h
  exact h
theorem pHi_range (afi : Int) (f : Nat → Int) (m : Nat) : 0 ≤ pHi afi f m ∧ pHi afi f m ≤ 18446744073709551615 := by
  unfold pHi
  split
  · exact bits_u64 _ _ _
  · exact bits_u64 _ _ _
theorem pLo_range (afi : Int) (f : Nat → Int) (m : Nat) : 0 ≤ pLo afi f m ∧ pLo afi f m ≤ 18446744073709551615 := by
  unfold pLo
  split
  · exact bits_u64 _ _ _
  · exact bits_u64 _ _ _

theorem PathOK.mem {w : World} {R : Nat} {s : St} {V path : Value} {l : List Int} (h : PathOK w R s V path l) : PathMem w path l := by
  rcases h with h | ⟨gS, oS, gA, oA, h0, h1, h2, h3, h4⟩
  · exact .inl h
  · exact .inr ⟨gS, oS, gA, oA, h0, h1, h2.1, h3.1, fun i x hx => (h4 i x hx).1⟩
theorem PathMem.cells {w w' : World} {path : Value} {l : List Int} (h : PathMem w path l) (k : ∀ a v, w.cell? a = some v → w'.cell? a = some v) : PathMem w' path l := by
  rcases h with h | ⟨gS, oS, gA, oA, h0, h1, h2, h3, h4⟩
  · exact .inl h
  · exact .inr ⟨gS, oS, gA, oA, h0, h1, k _ _ h2, k _ _ h3, fun i x hx => k _ _ (h4 i x hx)⟩
theorem RtMem.cells {w w' : World} {gv : Nat} {hi lo : Int} {pp : Option Go.Addr} {m : Nat} {P : Nat → Int} {es : List Ent} (h : RtMem w gv hi lo pp m P es) (k : ∀ a v, w.cell? a = some v → w'.cell? a = some v) : RtMem w' gv hi lo pp m P es := by
  intro i e he
  obtain ⟨path, h0, h1, h2, h3, h4, h5, h6, h7⟩ := h i e he
  exact ⟨path, k _ _ h0, k _ _ h1, k _ _ h2, k _ _ h3, k _ _ h4, k _ _ h5, k _ _ h6, h7.cells k⟩

/-- The routes behind the entries, cell by cell. -/
theorem rt_mem {w : World} {bV R gv cap n : Nat} {s : St} {V : Value} {P : Nat → Int} {es : List Ent} {r0 r1 r2 r3 r4 r5 r6 : Value} {xs : List Value} {hi lo : Int} {pp : Option Go.Addr} {m : Nat}
    (hn : n = 1 + es.length) (hR : w.ownsRow bV 51 7 (.slice (some ⟨gv, 0, none⟩) n cap) n ([r0, r1, r2, r3, r4, r5, r6] ++ xs)) (hD : Done w R s V [.int .u64 hi, .int .u64 lo, .pointer pp, .int .u8 ((m : Int) + 1)] P es xs) :
    RtMem w gv hi lo pp m P es := by
  intro i e he
  obtain ⟨path, h1, h2⟩ := hD.2 i e he
  have hi1 : i < es.length := (List.getElem?_eq_some_iff.mp he).1
  have key : ∀ j v, j < 7 → [Value.int .u64 hi, .int .u64 lo, .pointer pp, .int .u8 ((m : Int) + 1), path, .int .u32 (P e.peer), .int .u32 0][j]? = some v → w.cell? ⟨gv, (1 + i) * 7 + j, none⟩ = some v := by
    intro j v hj hv
    rw [hR.cellAt ((1 + i) * 7 + j) (by omega), List.getElem?_append_right (by simp; omega)]
    have h3 : ((xs.drop (7 * i)).take 7)[j]? = some v := by rw [h1]; exact hv
    rw [List.getElem?_take, if_pos hj, List.getElem?_drop] at h3
    rw [← h3]
    congr 1
    simp only [List.length_cons, List.length_nil]
    omega
  exact ⟨path, key 0 _ (by omega) rfl, key 1 _ (by omega) rfl, key 2 _ (by omega) rfl, key 3 _ (by omega) rfl, key 4 _ (by omega) rfl, key 5 _ (by omega) rfl, key 6 _ (by omega) rfl, h2.mem⟩

theorem maskRow_vals (f : Nat → Int) (off m i : Nat) : ∃ v0 v1 v2 v3 v4 v5 v6 v7 v8 v9 v10 v11 v12 v13 v14 v15, (maskRow f off m i).toArray = #[.int .u8 v0, .int .u8 v1, .int .u8 v2, .int .u8 v3, .int .u8 v4, .int .u8 v5, .int .u8 v6, .int .u8 v7, .int .u8 v8, .int .u8 v9, .int .u8 v10, .int .u8 v11, .int .u8 v12, .int .u8 v13, .int .u8 v14, .int .u8 v15] :=
  ⟨_, _, _, _, _, _, _, _, _, _, _, _, _, _, _, _, rfl⟩

theorem grown_row {w W w1 : World} {b : Nat} (h : w.grownBy W none) (g : W.grownBy w1 (some b)) (hb : w.heap.size ≤ b) : w.grownBy w1 none :=
  ⟨g.os.trans h.os, g.tape.trans h.tape, g.output.trans h.output, Nat.le_trans h.size g.size, fun k hk _ => (g.block k (Nat.lt_of_lt_of_le hk h.size) (by simp only [ne_eq, Option.some.injEq]; omega)).trans (h.block k hk (by simp))⟩

theorem below_more {b : Nat} {w W w' : World} (h : Below b w W) (g : W.grownBy w' none) (hb : b ≤ w.heap.size) : Below b w w' :=
  ⟨g.os.trans h.os, g.tape.trans h.tape, g.output.trans h.output, Nat.le_trans h.size g.size, fun k hk => (g.block k (Nat.lt_of_lt_of_le hk (Nat.le_trans hb h.size)) (by simp)).trans (h.block k hk)⟩
end Go.Proofs.YbulkaigaFmt
