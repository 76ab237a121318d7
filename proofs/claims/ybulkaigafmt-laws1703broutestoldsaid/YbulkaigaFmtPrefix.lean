import Derived.Test.YbulkaigaFmtErrs
import Derived.Laws.CopyOwn
namespace Go.Proofs.YbulkaigaFmt
open Go.RowKit Go.Extern.Stop Go.Stop Go.Extern

def zeroPfx : Value := .agg #[.int .u64 0, .int .u64 0, .pointer none, .int .u8 0]

/-- What a row of memory tells of its cells. -/
theorem row4 {w : World} {g : Nat} {a b c d : Value} {t : TypeId} (h : w.heap[g]? = some (.cells #[a, b, c, d] t (0, 0))) :
    w.cell? ⟨g, 0, none⟩ = some a ∧ w.cell? ⟨g, 1, none⟩ = some b ∧ w.cell? ⟨g, 2, none⟩ = some c ∧ w.cell? ⟨g, 3, none⟩ = some d ∧ ∀ j, w.frozen? ⟨g, j, none⟩ = false :=
  ⟨by rw [cell_of_row w g 0 _ t (0, 0) h]; rfl, by rw [cell_of_row w g 1 _ t (0, 0) h]; rfl, by rw [cell_of_row w g 2 _ t (0, 0) h]; rfl, by rw [cell_of_row w g 3 _ t (0, 0) h]; rfl, fun j => frozen_of_row w g j _ t h⟩
theorem row_grown {w w' : World} {g : Nat} {o : Obj} (h : w.heap[g]? = some o) (k : w.grownBy w' none) : w'.heap[g]? = some o := by
  have hb : g < w.heap.size := by
    rcases Nat.lt_or_ge g w.heap.size with h' | h'
    · exact h'
    · rw [Array.getElem?_eq_none h'] at h; cases h
  exact (k.block g hb (by simp)).trans h

set_option maxRecDepth 100000 in
set_option maxHeartbeats 4000000 in
theorem readPrefix_none (p : Option Go.Addr) (c : Nat) (afi : Int) (w : World) :
    Calls Ybaf.prog 25 #[.slice p 0 c, .int .u16 afi] w fun e w' => (∃ k, e = .returned (.tuple #[zeroPfx, .slice none 0 0, .iface 93 (.pointer (some ⟨k, 0, none⟩))])) ∧ w.grownBy w' none := by
  by_cases ha : afi = 2
  all_goals
    go_enter Ybaf.func25, Ybaf.ntmps25
    go_wp2_with (go_at_call 23; go_must (refine (new_any _ _).mono ?_; rintro e w1 ⟨rfl, g1⟩; obtain ⟨k0, k1, k2, k3, kf⟩ := row4 (row_grown (heap_alloc_new w _) g1); have kz := kf 0; have ky := kf 1; have kx := kf 2; have ku := kf 3))
    refine bodyPost_ret (v := .tuple #[zeroPfx, .slice none 0 0, .iface 93 (.pointer (some ⟨w.heap.size + 1, 0, none⟩))]) (by simp [results, Ybaf.f25, go_sem, k0, k1, k2, k3, zeroPfx]) rfl ⟨⟨_, rfl⟩, ?_⟩
    exact grown_set (grown_set (grown_set (grown_set (grown_then (World.grownBy_alloc w _ none) g1) (Nat.le_refl _)) (Nat.le_refl _)) (Nat.le_refl _)) (Nat.le_refl _)

set_option maxRecDepth 100000 in
set_option maxHeartbeats 4000000 in
theorem readPrefix_short (F : Interp) (g o n c m : Nat) (afi : Int) (w : World) (hF : F.answers w.tape) (hg : g < w.heap.size) (hn : 0 < n) (hb : w.cell? ⟨g, o, none⟩ = some (.int .u8 m)) (hm : m ≤ if afi = 2 then 128 else 32) (hs : n - 1 < (m + 7) / 8) :
    Calls Ybaf.prog 25 #[.slice (some ⟨g, o, none⟩) n c, .int .u16 afi] w fun e w' => (∃ k, e = .returned (.tuple #[zeroPfx, .slice none 0 0, .iface 93 (.pointer (some ⟨k, 0, none⟩))])) ∧ w.grownBy w' none := by
  have n1 : ¬ (n : Int) = 0 := by omega
  have n2 : (n : Int) - 1 < ((m : Int) + 7) / 8 := by omega
  have n3 : ((m : Int) + 7).tdiv 8 = ((m : Int) + 7) / 8 := Int.tdiv_eq_ediv_of_nonneg (by omega)
  have n4 : ¬ n = 0 := by omega
  by_cases ha : afi = 2
  all_goals
    simp only [ha, if_true, if_false] at hm
    have hm1 : m ≤ 128 := by omega
    go_enter Ybaf.func25, Ybaf.ntmps25
    go_wp2_with (first
      | (go_at_call 9; go_must (refine (check_fits _ _ _ (by omega)).mono ?_; rintro e w1 ⟨rfl, rfl⟩))
      | (go_at_call 20; go_must (refine (errorf_p1 F m _ _ (by exact hF) (by rw [World.cell?_alloc_at (hn := by simp)]; rfl)).mono ?_; rintro e w1 ⟨rfl, g1⟩; obtain ⟨k0, k1, k2, k3, kf⟩ := row4 (row_grown (heap_alloc_new w _) (grown_then (World.grownBy_alloc _ _ none) g1)); have kz := kf 0; have ky := kf 1; have kx := kf 2; have ku := kf 3)))
    refine bodyPost_ret (v := .tuple #[zeroPfx, .slice none 0 0, .iface 93 (.pointer (some ⟨w.heap.size + 1 + 1, 0, none⟩))]) (by simp [results, Ybaf.f25, go_sem, k0, k1, k2, k3, zeroPfx]) rfl ⟨⟨_, rfl⟩, ?_⟩
    exact grown_set (grown_set (grown_set (grown_set (grown_then (@grown2 w _ _) g1) (Nat.le_refl _)) (Nat.le_refl _)) (Nat.le_refl _)) (Nat.le_refl _)
end Go.Proofs.YbulkaigaFmt
