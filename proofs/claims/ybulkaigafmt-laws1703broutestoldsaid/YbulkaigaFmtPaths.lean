import Derived.Test.YbulkaigaFmtBuilder
import Derived.BigRegion
import Derived.Deep.RegionLaw
import Derived.Deep.RegionHeld3
import Derived.Deep.CutRange
namespace Go.Proofs.YbulkaigaFmt
open Go.RowKit
theorem Ybaf.info27 : Ybaf.prog.info? 27 = some Ybaf.t27 := by kernel_rfl
theorem Ybaf.info121 : Ybaf.prog.info? 121 = some Ybaf.t121 := by kernel_rfl
theorem Ybaf.info70 : Ybaf.prog.info? 70 = some Ybaf.t70 := by kernel_rfl

set_option maxRecDepth 100000 in
set_option maxHeartbeats 2000000 in
theorem readAS_any (g o n c : Nat) (x y z t : Int) (w : World) (hn : 4 ≤ n) (hg : g < w.heap.size) (x0 : 0 ≤ x) (x1 : x ≤ 255) (y0 : 0 ≤ y) (y1 : y ≤ 255) (z0 : 0 ≤ z) (z1 : z ≤ 255) (t0 : 0 ≤ t) (t1 : t ≤ 255)
    (c0 : w.cell? ⟨g, o, none⟩ = some (.int .u8 x)) (c1 : w.cell? ⟨g, o + 1, none⟩ = some (.int .u8 y)) (c2 : w.cell? ⟨g, o + 2, none⟩ = some (.int .u8 z)) (c3 : w.cell? ⟨g, o + 3, none⟩ = some (.int .u8 t)) :
    Calls Ybaf.prog 47 #[.slice (some ⟨g, o, none⟩) n c, .int .i64 4] w fun e w' => e = .returned (.int .u32 (x * 16777216 + y * 65536 + z * 256 + t)) ∧ ∃ k, w' = (w.alloc (.cells #[] 80)).drewN k := by
  go_enter Ybaf.func47, Ybaf.ntmps47
  go_wp2_with (go_at_call 54; go_must (refine (uint32_any g o n c x y z t w hn hg x0 x1 y0 y1 z0 z1 t0 t1 c0 c1 c2 c3).mono ?_; rintro e w' ⟨rfl, k, rfl⟩))
  go_ret
  exact ⟨rfl, k, rfl⟩

theorem Bld.front {w w' : World} {base R : Nat} {s : St} {row : Option Nat} (h : Bld w base R s) (hg : w.grownBy w' row) (hr : row = s.A.ownBlock ∨ row = s.S.ownBlock ∨ row = s.Q.ownBlock) : ∀ j, w'.cell? ⟨R, j, none⟩ = w.cell? ⟨R, j, none⟩ ∧ w'.frozen? ⟨R, j, none⟩ = false := by
  have hb : w'.heap[R]? = w.heap[R]? := by
    refine hg.block R h.RltH (fun e => ?_)
    rcases hr with r | r | r <;> rw [← e] at r
    · have := (h.ltA r.symm).1; omega
    · have := (h.ltS r.symm).1; omega
    · have := (h.ltQ r.symm).1; omega
  intro j
  refine ⟨World.cell?_of_block (a := ⟨R, j, none⟩) hb, (World.frozen?_of_block (a := ⟨R, j, none⟩) hb).trans (h.frozen j)⟩

set_option maxRecDepth 100000 in
set_option maxHeartbeats 2000000 in
theorem appendAS_any (base R : Nat) (s : St) (x : Int) (w : World) (hn : s.nA ≤ 1000000) (h : Bld w base R s) :
    Calls Ybaf.prog 46 #[.pointer (some ⟨R, 17, none⟩), .int .u32 x] w fun e w' => e = .returned (.tuple #[]) ∧ ∃ A', Bld w' base R { s with A := A', nA := s.nA + 1, xA := s.xA ++ [.int .u32 x] } ∧ Keeps w w' R s { s with A := A', nA := s.nA + 1, xA := s.xA ++ [.int .u32 x] } := by
  have hcA := h.cA
  have hRl := h.RltH
  have h2 := h.grown (World.grownBy_alloc w (.cells #[.int .u32 x] 27) none)
  have k2 : Keeps w (w.alloc (.cells #[.int .u32 x] 27)) R s s := Keeps.grown hRl (World.grownBy_alloc w _ none)
  have ho2 := h2.oA
  have hbb := h2.hb
  go_enter Ybaf.func46, Ybaf.ntmps46
  go_wp2_with (first
    | (at_builtin; go_must (refine wpList_append_keeps _ rfl _ _ _ rfl base 27 Ybaf.t27 (.int .u32 0) 1 4 Ybaf.underlying30 Ybaf.info27 rfl rfl rfl rfl (by omega) s.A s.nA s.xA rfl ho2 ⟨w.heap.size, 0, none⟩ 1 1 [.int .u32 x] rfl rfl (World.news_of_block (heap_alloc_new _ _)) (by simp [Value.oneCell']) (by omega) (by unfold maxLen; omega) (by omega) hbb (w.heap.size + 1) (by simp) ?_); intro g cap w1 hown1 hgrow hat1 hlt1 hk1; have hf1 := (h2.front hgrow (.inl rfl) 17).2; have hc1 := (h2.front hgrow (.inl rfl) 17).1.trans h2.cA))
  go_end0
  obtain ⟨p1, p2⟩ := h2.pushA hgrow hown1 (by simpa using hat1) hk1
  exact ⟨rfl, _, p1, k2.trans p2⟩

theorem own_shape {w : World} {base e size n : Nat} {v : Value} {xs : List Value} (h : w.ownsRow base e size v n xs) : ∃ p c, v = .slice p n c := by
  rcases h.2 with ⟨e, e2⟩ | ⟨g, cap, cur, e, _⟩
  · exact ⟨none, 0, by rw [e, e2]⟩
  · exact ⟨_, _, e⟩

theorem grown_drawn (w : World) (row : Option Nat) (k : Nat) : w.grownBy (w.drewN k) row := ⟨rfl, rfl, rfl, Nat.le_refl _, fun _ _ _ => rfl⟩
theorem grown_drew (w : World) (row : Option Nat) : w.grownBy w.drew row := ⟨rfl, rfl, rfl, Nat.le_refl _, fun _ _ _ => rfl⟩
theorem grown_alloc_drew (w : World) (o : Obj) (row : Option Nat) : w.grownBy (w.alloc o).drew row := let h := World.grownBy_alloc w o row; ⟨h.os, h.tape, h.output, h.size, h.block⟩

set_option maxRecDepth 100000 in
set_option maxHeartbeats 2000000 in
theorem startSegment_any (base R : Nat) (s : St) (x : Int) (w : World) (hn : s.nQ ≤ 1000000) (h : Bld w base R s) :
    Calls Ybaf.prog 45 #[.pointer (some ⟨R, 17, none⟩), .int .u8 x] w fun e w' => e = .returned (.tuple #[]) ∧ ∃ Q', Bld w' base R { s with Q := Q', nQ := s.nQ + 1, xQ := s.xQ ++ [.int .u8 x, .int .i64 s.nA] } ∧ Keeps w w' R s { s with Q := Q', nQ := s.nQ + 1, xQ := s.xQ ++ [.int .u8 x, .int .i64 s.nA] } := by
  obtain ⟨pa, ca, hpa⟩ := own_shape h.oA
  have hcA : w.cell? ⟨R, 17, none⟩ = some (.slice pa s.nA ca) := by rw [← hpa]; exact h.cA
  clear hpa
  have hcQ := h.cQ
  have hRl := h.RltH
  have h2 := h.grown (grown_alloc_drew w (.cells #[.int .u8 x, .int .i64 s.nA] 121) none)
  have k2 : Keeps w (w.alloc (.cells #[.int .u8 x, .int .i64 s.nA] 121)).drew R s s := Keeps.grown hRl (grown_alloc_drew w _ none)
  have ho2 := h2.oQ
  have hbb := h2.hb
  go_enter Ybaf.func45, Ybaf.ntmps45
  go_region_law (refine step_append_keeps _ rfl (.tmp 8) (.tmp 16) 55 rfl base 121 Ybaf.t121 (.agg #[.int .u8 0, .int .i64 0]) 2 16 Ybaf.underlying55 Ybaf.info121 rfl rfl rfl rfl (by omega) s.Q s.nQ s.xQ (by simp [Act.eval]) ho2 ⟨w.heap.size, 0, none⟩ 1 1 [.int .u8 x, .int .i64 s.nA] (by simp [Act.eval]) rfl (World.news_of_block (w := (w.alloc _).drew) (heap_alloc_new _ _)) (by simp [Value.oneCell']) (by omega) (by unfold maxLen; omega) (by omega) hbb (w.heap.size + 1) (by simp) ?_; intro g cap w1 hown1 hgrow hat1 hlt1 hk1; have hf1 := (h2.front hgrow (.inr (.inr rfl)) 19).2; have hc1 := (h2.front hgrow (.inr (.inr rfl)) 19).1.trans h2.cQ)
  all_goals go_end0
  all_goals obtain ⟨p1, p2⟩ := h2.pushQ hgrow hown1 (by simpa using hat1)
  all_goals exact ⟨rfl, _, p1, k2.trans p2⟩

end Go.Proofs.YbulkaigaFmt
