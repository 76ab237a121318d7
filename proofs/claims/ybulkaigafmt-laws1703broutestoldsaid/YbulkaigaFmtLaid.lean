import Derived.Test.YbulkaigaFmtRows
import Derived.Test.YbulkaigaFmtTie
import Derived.Test.YbulkaigaFmtCards
import Derived.Test.YbulkaigaFmtNetip
import Derived.ProofKit
import Derived.WalkSmall
import Derived.Stop.JoinedAt
import Derived.Stop.JoinedTold
import Derived.Stop.Texts
import Derived.Stop.LaidErr
import Derived.SevenToldRow
import Derived.SevenTiedAt
namespace Go.Proofs.YbulkaigaFmt
open Go.ChangeShapes Go.WideShapes Go.ChangeAt Go.RowKit Go.Kit
open Go.Extern.Stop Go.Stop Go.Extern

/-- The name of the i-th listed variable, out of the given row. -/
def zName (i : Nat) : String := (Rows.lawS1703BCutRow.laid.getD i ("", .nil)).1
theorem Ybaf.g4 : Ybaf.prog.globalNamed (zName 3) = some 2 := by kernel_rfl
theorem Ybaf.g6 : Ybaf.prog.globalNamed (zName 4) = some 1 := by kernel_rfl
theorem Ybaf.g0 : Ybaf.prog.globalNamed (zName 5) = some 3 := by kernel_rfl
theorem Ybaf.gt1 : (Ybaf.prog.globals[1]?).map (·.type) = some 43 := by kernel_rfl
theorem Ybaf.gt2 : (Ybaf.prog.globals[2]?).map (·.type) = some 43 := by kernel_rfl
theorem Ybaf.gt3 : (Ybaf.prog.globals[3]?).map (·.type) = some 43 := by kernel_rfl
theorem Ybaf.cells41 : Ybaf.prog.cellsOf 41 = 1 := by kernel_rfl
theorem Ybaf.cells43 : Ybaf.prog.cellsOf 43 = 1 := by kernel_rfl
theorem Ybaf.cells151 : Ybaf.prog.cellsOf 151 = 2 := by kernel_rfl

theorem one_of_length {α : Type} {l : List α} (h : l.length = 1) : ∃ c, l = [c] := by
  match l, h with
  | [c], _ => exact ⟨c, rfl⟩
theorem handle_of_trod {H : Type} {enc : TypeId × Value → H} {W : World} {base fuel : Nat} {sp : Nat → Bool} {held : Bool} {cs : List Value} {x : DataW H × List MemPlace} (h : DataW.trod enc Ybaf.prog W base sp held fuel 43 cs = some x) :
    (cs = [.pointer none] ∧ x = (.agg [.nil], [])) ∨ ∃ a d q, cs = [.pointer (some a)] ∧ x = (.agg [.ptr d], MemPlace.row a 2 ++ q) := by
  obtain ⟨y0, n, hx, hl, hy⟩ := trod_struct1 Ybaf.underlying43 h
  rw [Ybaf.cells43] at hl
  obtain ⟨c, rfl⟩ : ∃ c, cs = [c] := one_of_length hl
  have hy2 : DataW.trod enc Ybaf.prog W base sp held n 41 [c] = some y0 := by
    simpa [Ybaf.cells41] using hy
  rcases DataW.trod_pointer Ybaf.underlying41 hy2 with ⟨h1, h2⟩ | ⟨a, cs', y, n', _, h1, h2, _, _⟩
  · subst h2
    exact .inl ⟨h1, hx⟩
  · subst h2
    rw [Ybaf.cells151] at hx
    exact .inr ⟨a, y.1, y.2, h1, hx⟩

theorem marks_of_laid {W : World} (h : laidMet Ybaf.prog Rows.lawS1703BCutRow.laid W) : ∃ a4 a6, Marks W a4 a6 := by
  obtain ⟨ps, ⟨g1, t1, cs1, f1, p1, q1, _, _, _, _, ⟨g2, t2, cs2, f2, p2, q2, _, _, _, _, ⟨g3, t3, cs3, f3, p3, q3, _, _, _, _, ⟨g4, t4, cs4, f4, p4, q4, hg4, ht4, hv4, hd4, ⟨g5, t5, cs5, f5, p5, q5, hg5, ht5, hv5, hd5, ⟨g6, t6, cs6, f6, p6, q6, hg6, ht6, hv6, hd6, _, e6⟩, e5⟩, e4⟩, e3⟩, e2⟩, e1⟩, hnd, hrows⟩ := h
  obtain rfl := Option.some.inj (Ybaf.g4.symm.trans hg4)
  obtain rfl := Option.some.inj (Ybaf.g6.symm.trans hg5)
  obtain rfl := Option.some.inj (Ybaf.g0.symm.trans hg6)
  obtain rfl := Option.some.inj (Ybaf.gt2.symm.trans ht4)
  obtain rfl := Option.some.inj (Ybaf.gt1.symm.trans ht5)
  obtain rfl := Option.some.inj (Ybaf.gt3.symm.trans ht6)
  obtain ⟨l4⟩ := cs4
  obtain ⟨l5⟩ := cs5
  obtain ⟨l6⟩ := cs6
  rcases handle_of_trod hd4 with ⟨_, hx⟩ | ⟨a4, d4, r4, h4, hx4⟩
  · exact absurd (congrArg Prod.fst hx) (by simp [Rows.laid_net_netip_z4])
  rcases handle_of_trod hd5 with ⟨_, hx⟩ | ⟨a6, d5, r5, h5, hx5⟩
  · exact absurd (congrArg Prod.fst hx) (by simp [Rows.laid_net_netip_z6noz])
  rcases handle_of_trod hd6 with ⟨h6, hx6⟩ | ⟨a0, d0, r0, _, hx⟩
  · subst h4 h5 h6
    have hp4 : p4 = MemPlace.row a4 2 ++ r4 := congrArg Prod.snd hx4
    have hp5 : p5 = MemPlace.row a6 2 ++ r5 := congrArg Prod.snd hx5
    have c4 : W.cell? ⟨2, 0, none⟩ = some (.pointer (some a4)) := by simpa using World.var?_cell hg4 hv4 0
    have c6 : W.cell? ⟨1, 0, none⟩ = some (.pointer (some a6)) := by simpa using World.var?_cell hg5 hv5 0
    have c0 : W.cell? ⟨3, 0, none⟩ = some (.pointer none) := by simpa using World.var?_cell hg6 hv6 0
    subst hp4 hp5 e5 e4 e3 e2 e1
    refine ⟨a4, a6, c6, c4, c0, World.block_lt_of_cell? W _ c0, (hrows a6.block a6.off (by simp [MemPlace.row])).1, (hrows a4.block a4.off (by simp [MemPlace.row])).1, ?_⟩
    rintro rfl
    have n1 := (List.nodup_append.mp hnd).2.1
    have n2 := (List.nodup_append.mp n1).2.1
    have n3 := (List.nodup_append.mp n2).2.1
    exact (List.nodup_append.mp n3).2.2 (MemPlace.cell a6.block a6.off) (by simp [MemPlace.row]) (MemPlace.cell a6.block a6.off) (by simp [MemPlace.row]) rfl
  · exact absurd (congrArg Prod.fst hx) (by simp [Rows.laid_net_netip_z0])
end Go.Proofs.YbulkaigaFmt
