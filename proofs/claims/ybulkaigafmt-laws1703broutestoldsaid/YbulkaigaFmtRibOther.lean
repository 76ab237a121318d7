import Derived.Test.YbulkaigaFmtUnite
import Derived.Test.YbulkaigaFmtOrders
namespace Go.Proofs.YbulkaigaFmt
open Go.RowKit

set_option maxRecDepth 100000 in
set_option maxHeartbeats 8000000 in
/-- A body of another family gives no routes. -/
theorem rib_mc (R g n c : Nat) (nm : ByteArray) (ap : Bool) (w : World) (hn : 7 ≤ n) (hnb : n ≤ 1000000) (hnc : n ≤ c) (hg : g < w.heap.size) (b4 : w.cell? ⟨g, 4, none⟩ = some (.int .u8 0)) (b5 : w.cell? ⟨g, 4 + 1, none⟩ = some (.int .u8 1)) (b6 : w.cell? ⟨g, 6, none⟩ = some (.int .u8 2)) :
    Calls Ybaf.prog 11 #[.pointer (some ⟨R, 0, none⟩), .slice (some ⟨g, 0, none⟩) n c, .agg #[.string nm, .int .u16 0, .int .u8 0, .bool ap]] w fun e w' => e = .returned .nilIface ∧ w.grownBy w' none := by
  have gB := World.grownBy_alloc w (.cells #[.string nm, .int .u16 0, .int .u8 0, .bool ap] 34) none
  have m1 : ¬ (n : Int) < 4 := by omega
  have m2 : (4 : Int) ≤ (n : Int) := by omega
  have hc4 : ¬ c = 4 := by omega
  have m3 : ¬ ((n - 4 : Nat) : Int) < 3 := by omega
  have m3' : (3 : Int) ≤ ((n - 4 : Nat) : Int) := by omega
  have m4 : ¬ n - 4 < 3 := by omega
  have m5 : 2 < n - 4 := by omega
  have m6 : (2 : Int) < ((n - 4 : Nat) : Int) := by omega
  go_enter Ybaf.func11, Ybaf.ntmps11
  go_wp2_with fail
  go_quiet (fail)
  go_wp2_with fail
  have gQ := grown_then gB (grown_drawn _ none nq)
  obtain ⟨W0, hW0⟩ : ∃ W0, W0 = (w.alloc (.cells #[.string nm, .int .u16 0, .int .u8 0, .bool ap] 34)).drewN nq := ⟨_, rfl⟩
  rw [← hW0] at gQ ⊢
  have q4 := gQ.cell b4 (by simp)
  have q5 := gQ.cell b5 (by simp)
  have q6 := gQ.cell b6 (by simp)
  have hgQ : g < W0.heap.size := Nat.lt_of_lt_of_le hg gQ.size
  clear hW0 b4 b5 b6
  refine wp_region_last (fun w' => w'.cell? ⟨g, 6, none⟩ = some (.int .u8 2)) 7 (by kernel_rfl) q6 (fun hH => ?_)
  refine wpAnyL_takeD 0 (v := ?vq0) (by kernel_rfl) rfl (by kernel_rfl) (by kernel_rfl) (by kernel_rfl) (fun _ _ _ h => h) (by rfl) hH ?yq0 ?rq0
  case yq0 => (intro wz hSw; (try dsimp only at hSw); go_simp; try with_reducible rfl)
  try simp only [Act.put, List.setIfInBounds_toArray, List.set_cons_zero, List.set_cons_succ]
  refine wpAnyL_takeD 1 (v := ?vq1) (by kernel_rfl) rfl (by kernel_rfl) (by kernel_rfl) (by kernel_rfl) (fun _ _ _ h => h) (by rfl) hH ?yq1 ?rq1
  case yq1 => (intro wz hSw; (try dsimp only at hSw); go_simp; try with_reducible rfl)
  try simp only [Act.put, List.setIfInBounds_toArray, List.set_cons_zero, List.set_cons_succ]
  refine wpAnyL_takeD 3 (v := ?vq3) (by kernel_rfl) rfl (by kernel_rfl) (by kernel_rfl) (by kernel_rfl) (fun _ _ _ h => h) (by rfl) hH ?yq3 ?rq3
  case yq3 => (intro wz hSw; (try dsimp only at hSw); go_simp; try with_reducible rfl)
  try simp only [Act.put, List.setIfInBounds_toArray, List.set_cons_zero, List.set_cons_succ]
  refine wpAnyL_takeD 4 (v := ?vq4) (by kernel_rfl) rfl (by kernel_rfl) (by kernel_rfl) (by kernel_rfl) (fun _ _ _ h => h) (by rfl) hH ?yq4 ?rq4
  case yq4 => (intro wz hSw; (try dsimp only at hSw); go_simp; try with_reducible rfl)
  try simp only [Act.put, List.setIfInBounds_toArray, List.set_cons_zero, List.set_cons_succ]
  refine wpAnyL_takeD 5 (v := ?vq5) (by kernel_rfl) rfl (by kernel_rfl) (by kernel_rfl) (by kernel_rfl) (fun _ _ _ h => h) (by rfl) hH ?yq5 ?rq5
  case yq5 => (intro wz hSw; (try dsimp only at hSw); go_simp; try with_reducible rfl)
  try simp only [Act.put, List.setIfInBounds_toArray, List.set_cons_zero, List.set_cons_succ]
  refine wpAnyL_oneD 2 (by kernel_rfl) rfl (fun K hK => ?_)
  go_simp
  refine (uint16_any g 4 (n - 4) (c - 4) 0 1 W0.drew (by omega) hgQ (by omega) (by omega) (by omega) (by omega) q4 q5).mono ?_
  rintro e2 w2 ⟨rfl, k3, rfl⟩
  rw [show (0 : Int) * 256 + 1 = 1 from rfl]
  have hS : ((W0.drew.alloc (.cells #[] 80)).drewN k3).cell? ⟨g, 6, none⟩ = some (.int .u8 2) := (grown_then (World.grownBy_alloc W0.drew _ none) (grown_drawn _ none k3)).cell (show W0.drew.cell? _ = _ from q6) (by simp)
  refine hK _ _ (fun _ => hS) (fun _ => ?_)
  clear hK K
  try simp only [Act.put, List.setIfInBounds_toArray, List.set_cons_zero, List.set_cons_succ]
  refine wpAnyL_oneD 6 (by kernel_rfl) rfl (fun K hK => ?_)
  go_simp
  refine hK _ _ (fun _ => hS) (fun _ => ?_)
  clear hK K
  try simp only [Act.put, List.setIfInBounds_toArray, List.set_cons_zero, List.set_cons_succ]
  refine wpAnyL_oneD 7 (by kernel_rfl) rfl (fun K hK => ?_)
  go_simp
  refine hK _ _ (fun hno => absurd rfl hno) (fun _ => ?_)
  clear hK K
  try simp only [Act.put, List.setIfInBounds_toArray, List.set_cons_zero, List.set_cons_succ]
  refine wpAnyL_done (by kernel_rfl) ?_ _
  have gF : w.grownBy ((W0.alloc (.cells #[] 80)).drewN (1 + k3)) none := grown_then gQ (grown_then (World.grownBy_alloc W0 _ none) (grown_drawn _ none _))
  clear q4 q5 q6 hS hH
  by_cases hc7 : c - 4 = 3
  all_goals
    go_wp2_with fail
    go_ret
    exact ⟨rfl, gF⟩

set_option maxRecDepth 100000 in
set_option maxHeartbeats 8000000 in
/-- A body of another family gives no routes. -/
theorem rib_other (R g n c : Nat) (nm : ByteArray) (ap : Bool) (w : World) (hn : 7 ≤ n) (hnb : n ≤ 1000000) (hnc : n ≤ c) (hg : g < w.heap.size) (b4 : w.cell? ⟨g, 4, none⟩ = some (.int .u8 0)) (b5 : w.cell? ⟨g, 4 + 1, none⟩ = some (.int .u8 3)) (b6 : w.cell? ⟨g, 6, none⟩ = some (.int .u8 1)) :
    Calls Ybaf.prog 11 #[.pointer (some ⟨R, 0, none⟩), .slice (some ⟨g, 0, none⟩) n c, .agg #[.string nm, .int .u16 0, .int .u8 0, .bool ap]] w fun e w' => e = .returned .nilIface ∧ w.grownBy w' none := by
  have gB := World.grownBy_alloc w (.cells #[.string nm, .int .u16 0, .int .u8 0, .bool ap] 34) none
  have m1 : ¬ (n : Int) < 4 := by omega
  have m2 : (4 : Int) ≤ (n : Int) := by omega
  have hc4 : ¬ c = 4 := by omega
  have m3 : ¬ ((n - 4 : Nat) : Int) < 3 := by omega
  have m3' : (3 : Int) ≤ ((n - 4 : Nat) : Int) := by omega
  have m4 : ¬ n - 4 < 3 := by omega
  have m5 : 2 < n - 4 := by omega
  have m6 : (2 : Int) < ((n - 4 : Nat) : Int) := by omega
  go_enter Ybaf.func11, Ybaf.ntmps11
  go_wp2_with fail
  go_quiet (fail)
  go_wp2_with fail
  have gQ := grown_then gB (grown_drawn _ none nq)
  obtain ⟨W0, hW0⟩ : ∃ W0, W0 = (w.alloc (.cells #[.string nm, .int .u16 0, .int .u8 0, .bool ap] 34)).drewN nq := ⟨_, rfl⟩
  rw [← hW0] at gQ ⊢
  have q4 := gQ.cell b4 (by simp)
  have q5 := gQ.cell b5 (by simp)
  have q6 := gQ.cell b6 (by simp)
  have hgQ : g < W0.heap.size := Nat.lt_of_lt_of_le hg gQ.size
  clear hW0 b4 b5 b6
  refine wp_region_last (fun w' => w'.cell? ⟨g, 6, none⟩ = some (.int .u8 1)) 7 (by kernel_rfl) q6 (fun hH => ?_)
  refine wpAnyL_takeD 0 (v := ?vq0) (by kernel_rfl) rfl (by kernel_rfl) (by kernel_rfl) (by kernel_rfl) (fun _ _ _ h => h) (by rfl) hH ?yq0 ?rq0
  case yq0 => (intro wz hSw; (try dsimp only at hSw); go_simp; try with_reducible rfl)
  try simp only [Act.put, List.setIfInBounds_toArray, List.set_cons_zero, List.set_cons_succ]
  refine wpAnyL_takeD 1 (v := ?vq1) (by kernel_rfl) rfl (by kernel_rfl) (by kernel_rfl) (by kernel_rfl) (fun _ _ _ h => h) (by rfl) hH ?yq1 ?rq1
  case yq1 => (intro wz hSw; (try dsimp only at hSw); go_simp; try with_reducible rfl)
  try simp only [Act.put, List.setIfInBounds_toArray, List.set_cons_zero, List.set_cons_succ]
  refine wpAnyL_takeD 3 (v := ?vq3) (by kernel_rfl) rfl (by kernel_rfl) (by kernel_rfl) (by kernel_rfl) (fun _ _ _ h => h) (by rfl) hH ?yq3 ?rq3
  case yq3 => (intro wz hSw; (try dsimp only at hSw); go_simp; try with_reducible rfl)
  try simp only [Act.put, List.setIfInBounds_toArray, List.set_cons_zero, List.set_cons_succ]
  refine wpAnyL_takeD 4 (v := ?vq4) (by kernel_rfl) rfl (by kernel_rfl) (by kernel_rfl) (by kernel_rfl) (fun _ _ _ h => h) (by rfl) hH ?yq4 ?rq4
  case yq4 => (intro wz hSw; (try dsimp only at hSw); go_simp; try with_reducible rfl)
  try simp only [Act.put, List.setIfInBounds_toArray, List.set_cons_zero, List.set_cons_succ]
  refine wpAnyL_takeD 5 (v := ?vq5) (by kernel_rfl) rfl (by kernel_rfl) (by kernel_rfl) (by kernel_rfl) (fun _ _ _ h => h) (by rfl) hH ?yq5 ?rq5
  case yq5 => (intro wz hSw; (try dsimp only at hSw); go_simp; try with_reducible rfl)
  try simp only [Act.put, List.setIfInBounds_toArray, List.set_cons_zero, List.set_cons_succ]
  refine wpAnyL_oneD 2 (by kernel_rfl) rfl (fun K hK => ?_)
  go_simp
  refine (uint16_any g 4 (n - 4) (c - 4) 0 3 W0.drew (by omega) hgQ (by omega) (by omega) (by omega) (by omega) q4 q5).mono ?_
  rintro e2 w2 ⟨rfl, k3, rfl⟩
  rw [show (0 : Int) * 256 + 3 = 3 from rfl]
  have hS : ((W0.drew.alloc (.cells #[] 80)).drewN k3).cell? ⟨g, 6, none⟩ = some (.int .u8 1) := (grown_then (World.grownBy_alloc W0.drew _ none) (grown_drawn _ none k3)).cell (show W0.drew.cell? _ = _ from q6) (by simp)
  refine hK _ _ (fun _ => hS) (fun _ => ?_)
  clear hK K
  try simp only [Act.put, List.setIfInBounds_toArray, List.set_cons_zero, List.set_cons_succ]
  refine wpAnyL_oneD 6 (by kernel_rfl) rfl (fun K hK => ?_)
  go_simp
  refine hK _ _ (fun _ => hS) (fun _ => ?_)
  clear hK K
  try simp only [Act.put, List.setIfInBounds_toArray, List.set_cons_zero, List.set_cons_succ]
  refine wpAnyL_oneD 7 (by kernel_rfl) rfl (fun K hK => ?_)
  go_simp
  refine hK _ _ (fun hno => absurd rfl hno) (fun _ => ?_)
  clear hK K
  try simp only [Act.put, List.setIfInBounds_toArray, List.set_cons_zero, List.set_cons_succ]
  refine wpAnyL_done (by kernel_rfl) ?_ _
  have gF : w.grownBy ((W0.alloc (.cells #[] 80)).drewN (1 + k3)) none := grown_then gQ (grown_then (World.grownBy_alloc W0 _ none) (grown_drawn _ none _))
  clear q4 q5 q6 hS hH
  by_cases hc7 : c - 4 = 3
  all_goals
    go_wp2_with fail
    go_ret
    exact ⟨rfl, gF⟩

end Go.Proofs.YbulkaigaFmt
