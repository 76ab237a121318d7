import Derived.Test.YbulkaigaFmtNetip
import Derived.BigRegion
import Derived.Test.YbulkaigaFmtOrders
namespace Go.Proofs.YbulkaigaFmt
open Go.RowKit

/-- An array of sixteen bytes. -/
def arr16 (f : Nat → Int) : Value := .agg #[.int .u8 (f 0), .int .u8 (f 1), .int .u8 (f 2), .int .u8 (f 3), .int .u8 (f 4), .int .u8 (f 5), .int .u8 (f 6), .int .u8 (f 7), .int .u8 (f 8), .int .u8 (f 9), .int .u8 (f 10), .int .u8 (f 11), .int .u8 (f 12), .int .u8 (f 13), .int .u8 (f 14), .int .u8 (f 15)]
def hi16 (f : Nat → Int) : Int := join64 (f 0) (f 1) (f 2) (f 3) (f 4) (f 5) (f 6) (f 7)
def lo16 (f : Nat → Int) : Int := join64 (f 8) (f 9) (f 10) (f 11) (f 12) (f 13) (f 14) (f 15)

theorem block_grown {w w' : World} {b : Nat} (h : ∃ cs t, w.heap[b]? = some (.cells cs t (0, 0))) (g : w.grownBy w' none) : ∃ cs t, w'.heap[b]? = some (.cells cs t (0, 0)) := by
  obtain ⟨cs, t, e⟩ := h
  have hb : b < w.heap.size := by
    rcases Nat.lt_or_ge b w.heap.size with h | h
    · exact h
    · rw [Array.getElem?_eq_none h] at e; cases e
  exact ⟨cs, t, (g.block b hb (by simp)).trans e⟩
theorem Marks.grown {w w' : World} {a4 a6 : Go.Addr} (h : Marks w a4 a6) (g : w.grownBy w' none) : Marks w' a4 a6 :=
  ⟨g.cell h.c6 (by simp), g.cell h.c4 (by simp), g.cell h.c0 (by simp), Nat.lt_of_lt_of_le h.lt g.size, block_grown h.b6 g, block_grown h.b4 g, h.ne⟩

theorem grown_set {w W : World} {b j : Nat} {u : Value} {row : Option Nat} (h : w.grownBy W row) (hb : w.heap.size ≤ b) : w.grownBy (W.setCell ⟨b, j, none⟩ u) row :=
  ⟨h.os, h.tape, h.output, by simpa using h.size, fun k hk hr => (heap_setCell_other W ⟨b, j, none⟩ k u (fun e => by simp only at e; omega)).trans (h.block k hk hr)⟩

set_option maxRecDepth 100000 in
set_option maxHeartbeats 4000000 in
theorem addrFrom16_any (a4 a6 : Go.Addr) (f : Nat → Int) (w : World) (hf : ∀ i, 0 ≤ f i ∧ f i ≤ 255) (h : Marks w a4 a6) :
    Calls Ybaf.prog 30 #[arr16 f] w fun e w' => e = .returned (addrVal a6 (hi16 f) (lo16 f)) ∧ w.grownBy w' none := by
  have h1 := h.c6
  have h2 := h.lt
  have h3 : 1 < w.heap.size := by omega
  clear h
  unfold arr16
  go_enter Ybaf.func30, Ybaf.ntmps30
  go_wp2_with fail
  have d0 : ((w.alloc (.cells #[.int .u8 (f 0), .int .u8 (f 1), .int .u8 (f 2), .int .u8 (f 3), .int .u8 (f 4), .int .u8 (f 5), .int .u8 (f 6), .int .u8 (f 7), .int .u8 (f 8), .int .u8 (f 9), .int .u8 (f 10), .int .u8 (f 11), .int .u8 (f 12), .int .u8 (f 13), .int .u8 (f 14), .int .u8 (f 15)] 28)).alloc (.cells #[.int .u64 0, .int .u64 0, .pointer none] 45)).cell? ⟨w.heap.size, 0, none⟩ = some (.int .u8 (f 0)) := by go_simp
  have d1 : ((w.alloc (.cells #[.int .u8 (f 0), .int .u8 (f 1), .int .u8 (f 2), .int .u8 (f 3), .int .u8 (f 4), .int .u8 (f 5), .int .u8 (f 6), .int .u8 (f 7), .int .u8 (f 8), .int .u8 (f 9), .int .u8 (f 10), .int .u8 (f 11), .int .u8 (f 12), .int .u8 (f 13), .int .u8 (f 14), .int .u8 (f 15)] 28)).alloc (.cells #[.int .u64 0, .int .u64 0, .pointer none] 45)).cell? ⟨w.heap.size, 1, none⟩ = some (.int .u8 (f 1)) := by go_simp
  have d2 : ((w.alloc (.cells #[.int .u8 (f 0), .int .u8 (f 1), .int .u8 (f 2), .int .u8 (f 3), .int .u8 (f 4), .int .u8 (f 5), .int .u8 (f 6), .int .u8 (f 7), .int .u8 (f 8), .int .u8 (f 9), .int .u8 (f 10), .int .u8 (f 11), .int .u8 (f 12), .int .u8 (f 13), .int .u8 (f 14), .int .u8 (f 15)] 28)).alloc (.cells #[.int .u64 0, .int .u64 0, .pointer none] 45)).cell? ⟨w.heap.size, 2, none⟩ = some (.int .u8 (f 2)) := by go_simp
  have d3 : ((w.alloc (.cells #[.int .u8 (f 0), .int .u8 (f 1), .int .u8 (f 2), .int .u8 (f 3), .int .u8 (f 4), .int .u8 (f 5), .int .u8 (f 6), .int .u8 (f 7), .int .u8 (f 8), .int .u8 (f 9), .int .u8 (f 10), .int .u8 (f 11), .int .u8 (f 12), .int .u8 (f 13), .int .u8 (f 14), .int .u8 (f 15)] 28)).alloc (.cells #[.int .u64 0, .int .u64 0, .pointer none] 45)).cell? ⟨w.heap.size, 3, none⟩ = some (.int .u8 (f 3)) := by go_simp
  have d4 : ((w.alloc (.cells #[.int .u8 (f 0), .int .u8 (f 1), .int .u8 (f 2), .int .u8 (f 3), .int .u8 (f 4), .int .u8 (f 5), .int .u8 (f 6), .int .u8 (f 7), .int .u8 (f 8), .int .u8 (f 9), .int .u8 (f 10), .int .u8 (f 11), .int .u8 (f 12), .int .u8 (f 13), .int .u8 (f 14), .int .u8 (f 15)] 28)).alloc (.cells #[.int .u64 0, .int .u64 0, .pointer none] 45)).cell? ⟨w.heap.size, 4, none⟩ = some (.int .u8 (f 4)) := by go_simp
  have d5 : ((w.alloc (.cells #[.int .u8 (f 0), .int .u8 (f 1), .int .u8 (f 2), .int .u8 (f 3), .int .u8 (f 4), .int .u8 (f 5), .int .u8 (f 6), .int .u8 (f 7), .int .u8 (f 8), .int .u8 (f 9), .int .u8 (f 10), .int .u8 (f 11), .int .u8 (f 12), .int .u8 (f 13), .int .u8 (f 14), .int .u8 (f 15)] 28)).alloc (.cells #[.int .u64 0, .int .u64 0, .pointer none] 45)).cell? ⟨w.heap.size, 5, none⟩ = some (.int .u8 (f 5)) := by go_simp
  have d6 : ((w.alloc (.cells #[.int .u8 (f 0), .int .u8 (f 1), .int .u8 (f 2), .int .u8 (f 3), .int .u8 (f 4), .int .u8 (f 5), .int .u8 (f 6), .int .u8 (f 7), .int .u8 (f 8), .int .u8 (f 9), .int .u8 (f 10), .int .u8 (f 11), .int .u8 (f 12), .int .u8 (f 13), .int .u8 (f 14), .int .u8 (f 15)] 28)).alloc (.cells #[.int .u64 0, .int .u64 0, .pointer none] 45)).cell? ⟨w.heap.size, 6, none⟩ = some (.int .u8 (f 6)) := by go_simp
  have d7 : ((w.alloc (.cells #[.int .u8 (f 0), .int .u8 (f 1), .int .u8 (f 2), .int .u8 (f 3), .int .u8 (f 4), .int .u8 (f 5), .int .u8 (f 6), .int .u8 (f 7), .int .u8 (f 8), .int .u8 (f 9), .int .u8 (f 10), .int .u8 (f 11), .int .u8 (f 12), .int .u8 (f 13), .int .u8 (f 14), .int .u8 (f 15)] 28)).alloc (.cells #[.int .u64 0, .int .u64 0, .pointer none] 45)).cell? ⟨w.heap.size, 7, none⟩ = some (.int .u8 (f 7)) := by go_simp
  have d8 : ((w.alloc (.cells #[.int .u8 (f 0), .int .u8 (f 1), .int .u8 (f 2), .int .u8 (f 3), .int .u8 (f 4), .int .u8 (f 5), .int .u8 (f 6), .int .u8 (f 7), .int .u8 (f 8), .int .u8 (f 9), .int .u8 (f 10), .int .u8 (f 11), .int .u8 (f 12), .int .u8 (f 13), .int .u8 (f 14), .int .u8 (f 15)] 28)).alloc (.cells #[.int .u64 0, .int .u64 0, .pointer none] 45)).cell? ⟨w.heap.size, 8, none⟩ = some (.int .u8 (f 8)) := by go_simp
  have d9 : ((w.alloc (.cells #[.int .u8 (f 0), .int .u8 (f 1), .int .u8 (f 2), .int .u8 (f 3), .int .u8 (f 4), .int .u8 (f 5), .int .u8 (f 6), .int .u8 (f 7), .int .u8 (f 8), .int .u8 (f 9), .int .u8 (f 10), .int .u8 (f 11), .int .u8 (f 12), .int .u8 (f 13), .int .u8 (f 14), .int .u8 (f 15)] 28)).alloc (.cells #[.int .u64 0, .int .u64 0, .pointer none] 45)).cell? ⟨w.heap.size, 9, none⟩ = some (.int .u8 (f 9)) := by go_simp
  have d10 : ((w.alloc (.cells #[.int .u8 (f 0), .int .u8 (f 1), .int .u8 (f 2), .int .u8 (f 3), .int .u8 (f 4), .int .u8 (f 5), .int .u8 (f 6), .int .u8 (f 7), .int .u8 (f 8), .int .u8 (f 9), .int .u8 (f 10), .int .u8 (f 11), .int .u8 (f 12), .int .u8 (f 13), .int .u8 (f 14), .int .u8 (f 15)] 28)).alloc (.cells #[.int .u64 0, .int .u64 0, .pointer none] 45)).cell? ⟨w.heap.size, 10, none⟩ = some (.int .u8 (f 10)) := by go_simp
  have d11 : ((w.alloc (.cells #[.int .u8 (f 0), .int .u8 (f 1), .int .u8 (f 2), .int .u8 (f 3), .int .u8 (f 4), .int .u8 (f 5), .int .u8 (f 6), .int .u8 (f 7), .int .u8 (f 8), .int .u8 (f 9), .int .u8 (f 10), .int .u8 (f 11), .int .u8 (f 12), .int .u8 (f 13), .int .u8 (f 14), .int .u8 (f 15)] 28)).alloc (.cells #[.int .u64 0, .int .u64 0, .pointer none] 45)).cell? ⟨w.heap.size, 11, none⟩ = some (.int .u8 (f 11)) := by go_simp
  have d12 : ((w.alloc (.cells #[.int .u8 (f 0), .int .u8 (f 1), .int .u8 (f 2), .int .u8 (f 3), .int .u8 (f 4), .int .u8 (f 5), .int .u8 (f 6), .int .u8 (f 7), .int .u8 (f 8), .int .u8 (f 9), .int .u8 (f 10), .int .u8 (f 11), .int .u8 (f 12), .int .u8 (f 13), .int .u8 (f 14), .int .u8 (f 15)] 28)).alloc (.cells #[.int .u64 0, .int .u64 0, .pointer none] 45)).cell? ⟨w.heap.size, 12, none⟩ = some (.int .u8 (f 12)) := by go_simp
  have d13 : ((w.alloc (.cells #[.int .u8 (f 0), .int .u8 (f 1), .int .u8 (f 2), .int .u8 (f 3), .int .u8 (f 4), .int .u8 (f 5), .int .u8 (f 6), .int .u8 (f 7), .int .u8 (f 8), .int .u8 (f 9), .int .u8 (f 10), .int .u8 (f 11), .int .u8 (f 12), .int .u8 (f 13), .int .u8 (f 14), .int .u8 (f 15)] 28)).alloc (.cells #[.int .u64 0, .int .u64 0, .pointer none] 45)).cell? ⟨w.heap.size, 13, none⟩ = some (.int .u8 (f 13)) := by go_simp
  have d14 : ((w.alloc (.cells #[.int .u8 (f 0), .int .u8 (f 1), .int .u8 (f 2), .int .u8 (f 3), .int .u8 (f 4), .int .u8 (f 5), .int .u8 (f 6), .int .u8 (f 7), .int .u8 (f 8), .int .u8 (f 9), .int .u8 (f 10), .int .u8 (f 11), .int .u8 (f 12), .int .u8 (f 13), .int .u8 (f 14), .int .u8 (f 15)] 28)).alloc (.cells #[.int .u64 0, .int .u64 0, .pointer none] 45)).cell? ⟨w.heap.size, 14, none⟩ = some (.int .u8 (f 14)) := by go_simp
  have d15 : ((w.alloc (.cells #[.int .u8 (f 0), .int .u8 (f 1), .int .u8 (f 2), .int .u8 (f 3), .int .u8 (f 4), .int .u8 (f 5), .int .u8 (f 6), .int .u8 (f 7), .int .u8 (f 8), .int .u8 (f 9), .int .u8 (f 10), .int .u8 (f 11), .int .u8 (f 12), .int .u8 (f 13), .int .u8 (f 14), .int .u8 (f 15)] 28)).alloc (.cells #[.int .u64 0, .int .u64 0, .pointer none] 45)).cell? ⟨w.heap.size, 15, none⟩ = some (.int .u8 (f 15)) := by go_simp
  have hgr : w.grownBy ((w.alloc (.cells #[.int .u8 (f 0), .int .u8 (f 1), .int .u8 (f 2), .int .u8 (f 3), .int .u8 (f 4), .int .u8 (f 5), .int .u8 (f 6), .int .u8 (f 7), .int .u8 (f 8), .int .u8 (f 9), .int .u8 (f 10), .int .u8 (f 11), .int .u8 (f 12), .int .u8 (f 13), .int .u8 (f 14), .int .u8 (f 15)] 28)).alloc (.cells #[.int .u64 0, .int .u64 0, .pointer none] 45)) none := (World.grownBy_alloc w _ none).andThen (World.grownBy_alloc _ _ none) (fun _ h => Or.inr h)
  have e1 : ((w.alloc (.cells #[.int .u8 (f 0), .int .u8 (f 1), .int .u8 (f 2), .int .u8 (f 3), .int .u8 (f 4), .int .u8 (f 5), .int .u8 (f 6), .int .u8 (f 7), .int .u8 (f 8), .int .u8 (f 9), .int .u8 (f 10), .int .u8 (f 11), .int .u8 (f 12), .int .u8 (f 13), .int .u8 (f 14), .int .u8 (f 15)] 28)).alloc (.cells #[.int .u64 0, .int .u64 0, .pointer none] 45)).cell? ⟨1, 0, none⟩ = some (.pointer (some a6)) := hgr.cell h1 (by simp)
  have hsz : ((w.alloc (.cells #[.int .u8 (f 0), .int .u8 (f 1), .int .u8 (f 2), .int .u8 (f 3), .int .u8 (f 4), .int .u8 (f 5), .int .u8 (f 6), .int .u8 (f 7), .int .u8 (f 8), .int .u8 (f 9), .int .u8 (f 10), .int .u8 (f 11), .int .u8 (f 12), .int .u8 (f 13), .int .u8 (f 14), .int .u8 (f 15)] 28)).alloc (.cells #[.int .u64 0, .int .u64 0, .pointer none] 45)).heap.size = w.heap.size + 1 + 1 := by simp
  refine wp_region_last (fun w' => w'.cell? ⟨1, 0, none⟩ = some (.pointer (some a6))) 7 (by kernel_rfl) e1 (fun hH => ?_)
  refine wpAnyL_takeD 0 (v := ?vq0) (by kernel_rfl) rfl (by kernel_rfl) (by kernel_rfl) (by kernel_rfl) (fun _ _ _ h => h) (by rfl) hH ?yq0 ?rq0
  case yq0 => (intro wz hSw; (try dsimp only at hSw); go_simp; try with_reducible rfl)
  try simp only [Act.put, List.setIfInBounds_toArray, List.set_cons_zero, List.set_cons_succ]
  refine wpAnyL_takeD 2 (v := ?vq2) (by kernel_rfl) rfl (by kernel_rfl) (by kernel_rfl) (by kernel_rfl) (fun _ _ _ h => h) (by rfl) hH ?yq2 ?rq2
  case yq2 => (intro wz hSw; (try dsimp only at hSw); go_simp; try with_reducible rfl)
  try simp only [Act.put, List.setIfInBounds_toArray, List.set_cons_zero, List.set_cons_succ]
  refine wpAnyL_takeD 5 (v := ?vq5) (by kernel_rfl) rfl (by kernel_rfl) (by kernel_rfl) (by kernel_rfl) (fun _ _ _ h => h) (by rfl) hH ?yq5 ?rq5
  case yq5 => (intro wz hSw; (try dsimp only at hSw); go_simp; try with_reducible rfl)
  try simp only [Act.put, List.setIfInBounds_toArray, List.set_cons_zero, List.set_cons_succ]
  refine wpAnyL_oneD 1 (by kernel_rfl) rfl (fun K hK => ?_)
  go_simp
  refine (uint64_any w.heap.size 0 16 _ _ _ _ _ _ _ _ ((w.alloc (.cells #[.int .u8 (f 0), .int .u8 (f 1), .int .u8 (f 2), .int .u8 (f 3), .int .u8 (f 4), .int .u8 (f 5), .int .u8 (f 6), .int .u8 (f 7), .int .u8 (f 8), .int .u8 (f 9), .int .u8 (f 10), .int .u8 (f 11), .int .u8 (f 12), .int .u8 (f 13), .int .u8 (f 14), .int .u8 (f 15)] 28)).alloc (.cells #[.int .u64 0, .int .u64 0, .pointer none] 45)).drew (hf 0) (hf 1) (hf 2) (hf 3) (hf 4) (hf 5) (hf 6) (hf 7) d0 d1 d2 d3 d4 d5 d6 d7).mono ?_
  rintro e w1 ⟨rfl, k1, rfl⟩
  refine hK _ _ (fun _ => e1) (fun _ => ?_)
  clear hK K
  try simp only [Act.put, List.setIfInBounds_toArray, List.set_cons_zero, List.set_cons_succ]
  refine wpAnyL_oneD 3 (by kernel_rfl) rfl (fun K hK => ?_)
  go_simp
  refine (uint64_any w.heap.size 8 8 _ _ _ _ _ _ _ _ (((w.alloc (.cells #[.int .u8 (f 0), .int .u8 (f 1), .int .u8 (f 2), .int .u8 (f 3), .int .u8 (f 4), .int .u8 (f 5), .int .u8 (f 6), .int .u8 (f 7), .int .u8 (f 8), .int .u8 (f 9), .int .u8 (f 10), .int .u8 (f 11), .int .u8 (f 12), .int .u8 (f 13), .int .u8 (f 14), .int .u8 (f 15)] 28)).alloc (.cells #[.int .u64 0, .int .u64 0, .pointer none] 45)).drewN (1 + k1)) (hf 8) (hf 9) (hf 10) (hf 11) (hf 12) (hf 13) (hf 14) (hf 15) d8 d9 d10 d11 d12 d13 d14 d15).mono ?_
  rintro e w1 ⟨rfl, k2, rfl⟩
  refine hK _ _ (fun _ => e1) (fun _ => ?_)
  clear hK K
  try simp only [Act.put, List.setIfInBounds_toArray, List.set_cons_zero, List.set_cons_succ]
  refine wpAnyL_oneD 4 (by kernel_rfl) rfl (fun K hK => ?_)
  go_simp
  refine hK _ _ (fun _ => e1) (fun _ => ?_)
  clear hK K
  try simp only [Act.put, List.setIfInBounds_toArray, List.set_cons_zero, List.set_cons_succ]
  refine wpAnyL_oneD 6 (by kernel_rfl) rfl (fun K hK => ?_)
  go_simp
  refine hK _ _ (fun _ => e1) (fun _ => ?_)
  clear hK K
  try simp only [Act.put, List.setIfInBounds_toArray, List.set_cons_zero, List.set_cons_succ]
  refine wpAnyL_oneD 7 (by kernel_rfl) rfl (fun K hK => ?_)
  go_simp
  refine hK _ _ (fun hno => absurd rfl hno) (fun _ => ?_)
  clear hK K
  try simp only [Act.put, List.setIfInBounds_toArray, List.set_cons_zero, List.set_cons_succ]
  refine wpAnyL_done (by kernel_rfl) ?_ _
  go_wp2_with fail
  refine bodyPost_ret (v := addrVal a6 (hi16 f) (lo16 f)) (by simp [results, Ybaf.f30, go_sem]; rfl) rfl ⟨rfl, ?_⟩
  exact grown_set (grown_set (grown_set (hgr.andThen (grown_drawn _ none _) (fun _ h => Or.inr h)) (by simp)) (by simp)) (by simp)
end Go.Proofs.YbulkaigaFmt
