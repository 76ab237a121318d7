import Derived.Test.YbulkaigaFmtNetip3
import Derived.Test.YbulkaigaFmtOrders
namespace Go.Proofs.YbulkaigaFmt
open Go.RowKit
/-- A prefix: an address and how long it is. -/
def pfxVal (a : Go.Addr) (hi lo : Int) (m : Nat) : Value := .agg #[.int .u64 hi, .int .u64 lo, .pointer (some a), .int .u8 (m + 1)]
theorem grown2 {w : World} (a b : Obj) : w.grownBy ((w.alloc a).alloc b) none := (World.grownBy_alloc w _ none).andThen (World.grownBy_alloc _ _ none) (fun _ h => Or.inr h)
theorem grown_then {w w1 w2 : World} (h : w.grownBy w1 none) (k : w1.grownBy w2 none) : w.grownBy w2 none := h.andThen k (fun _ h => Or.inr h)
theorem grown_refl (w : World) : w.grownBy w none := ⟨rfl, rfl, rfl, Nat.le_refl _, fun _ _ _ => rfl⟩
theorem grown_alloc' {w W : World} {o : Obj} (h : w.grownBy W none) : w.grownBy (W.alloc o) none := grown_then h (World.grownBy_alloc W o none)
theorem grown_drew' {w W : World} (h : w.grownBy W none) : w.grownBy W.drew none := grown_then h (grown_drew W none)
attribute [local go_sem] eq41_nil eq41_same

set_option maxRecDepth 100000 in
set_option maxHeartbeats 4000000 in
theorem prefixFrom4_any (a4 a6 : Go.Addr) (hi lo : Int) (m : Nat) (w : World) (hm : m ≤ 32) (h : Marks w a4 a6) :
    Calls Ybaf.prog 38 #[.agg #[.int .u64 hi, .int .u64 lo, .pointer (some a4)], .int .i64 m] w fun e w' => e = .returned (pfxVal a4 hi lo m) ∧ w' = ((((((w.alloc (.cells #[.int .u64 hi, .int .u64 lo, .pointer (some a4)] 45)).alloc (.cells #[.int .u64 hi, .int .u64 lo, .pointer (some a4), .int .u8 (m + 1)] 47)).alloc (.cells #[.int .u64 hi, .int .u64 lo, .pointer (some a4)] 45)).alloc (.cells #[.int .u64 hi, .int .u64 lo, .pointer (some a4)] 45)).alloc (.cells #[.int .u64 hi, .int .u64 lo, .pointer (some a4)] 45)).alloc (.cells #[.int .u64 hi, .int .u64 lo, .pointer (some a4)] 45)).alloc (.cells #[.int .u64 hi, .int .u64 lo, .pointer (some a4)] 45) := by
  have m1 : (m : Int) ≤ 32 := by omega
  have m2 : (0 : Int) ≤ (m : Int) := by omega
  have m3 : IntKind.u8.wrap (m : Int) = m := by simp [IntKind.wrap, IntKind.bits, IntKind.signed]; omega
  have m4 : IntKind.u8.wrap ((m : Int) + 1) = m + 1 := by simp [IntKind.wrap, IntKind.bits, IntKind.signed]; omega
  have g1 := @grown2 w (.cells #[.int .u64 hi, .int .u64 lo, .pointer (some a4)] 45) (.cells #[.int .u64 0, .int .u64 0, .pointer none, .int .u8 0] 47)
  have h5 := h.grown g1
  have h6 := h5.grown (World.grownBy_alloc _ (.cells #[.int .u64 hi, .int .u64 lo, .pointer (some a4)] 45) none)
  have h7 := h6.grown (World.grownBy_alloc _ (.cells #[.int .u64 hi, .int .u64 lo, .pointer (some a4)] 45) none)
  clear g1
  go_enter Ybaf.func38, Ybaf.ntmps38
  go_wp2_with (first
    | (go_at_call 42; go_must (refine (isZero_any a4 a6 _ hi lo _ h5).mono ?_; rintro e w' ⟨rfl, rfl⟩))
    | (go_at_call 43; go_must (refine (bitLen4_any a4 a6 hi lo _ h6).mono ?_; rintro e w' ⟨rfl, rfl⟩))
    | (go_at_call 44; go_must (refine (noZone4_any a4 a6 hi lo _ h7).mono ?_; rintro e w' ⟨rfl, rfl⟩)))
  refine bodyPost_ret (v := pfxVal a4 hi lo m) (by simp [results, Ybaf.f38, go_sem, pfxVal]) rfl ⟨rfl, ?_⟩
  rfl

set_option maxRecDepth 100000 in
set_option maxHeartbeats 4000000 in
theorem prefixFrom6_any (a4 a6 : Go.Addr) (hi lo : Int) (m : Nat) (w : World) (hm : m ≤ 128) (h : Marks w a4 a6) :
    Calls Ybaf.prog 38 #[.agg #[.int .u64 hi, .int .u64 lo, .pointer (some a6)], .int .i64 m] w fun e w' => e = .returned (pfxVal a6 hi lo m) ∧ w' = ((((((w.alloc (.cells #[.int .u64 hi, .int .u64 lo, .pointer (some a6)] 45)).alloc (.cells #[.int .u64 hi, .int .u64 lo, .pointer (some a6), .int .u8 (m + 1)] 47)).alloc (.cells #[.int .u64 hi, .int .u64 lo, .pointer (some a6)] 45)).alloc (.cells #[.int .u64 hi, .int .u64 lo, .pointer (some a6)] 45)).alloc (.cells #[.int .u64 hi, .int .u64 lo, .pointer (some a6)] 45)).alloc (.cells #[.int .u64 hi, .int .u64 lo, .pointer (some a6)] 45)).alloc (.cells #[.int .u64 hi, .int .u64 lo, .pointer (some a6)] 45) := by
  have m1 : (m : Int) ≤ 128 := by omega
  have m2 : (0 : Int) ≤ (m : Int) := by omega
  have m3 : IntKind.u8.wrap (m : Int) = m := by simp [IntKind.wrap, IntKind.bits, IntKind.signed]; omega
  have m4 : IntKind.u8.wrap ((m : Int) + 1) = m + 1 := by simp [IntKind.wrap, IntKind.bits, IntKind.signed]; omega
  have g1 := @grown2 w (.cells #[.int .u64 hi, .int .u64 lo, .pointer (some a6)] 45) (.cells #[.int .u64 0, .int .u64 0, .pointer none, .int .u8 0] 47)
  have h5 := h.grown g1
  have h6 := h5.grown (World.grownBy_alloc _ (.cells #[.int .u64 hi, .int .u64 lo, .pointer (some a6)] 45) none)
  have h7 := h6.grown (World.grownBy_alloc _ (.cells #[.int .u64 hi, .int .u64 lo, .pointer (some a6)] 45) none)
  clear g1
  go_enter Ybaf.func38, Ybaf.ntmps38
  go_wp2_with (first
    | (go_at_call 42; go_must (refine (isZero_any a4 a6 _ hi lo _ h5).mono ?_; rintro e w' ⟨rfl, rfl⟩))
    | (go_at_call 43; go_must (refine (bitLen6_any a4 a6 hi lo _ h6).mono ?_; rintro e w' ⟨rfl, rfl⟩))
    | (go_at_call 44; go_must (refine (noZone6_any a4 a6 hi lo _ h7).mono ?_; rintro e w' ⟨rfl, rfl⟩)))
  refine bodyPost_ret (v := pfxVal a6 hi lo m) (by simp [results, Ybaf.f38, go_sem, pfxVal]) rfl ⟨rfl, ?_⟩
  rfl

set_option maxRecDepth 100000 in
set_option maxHeartbeats 4000000 in
theorem prefix4_any (a4 a6 : Go.Addr) (hi lo : Int) (m : Nat) (w : World) (hm : m ≤ 32) (h : Marks w a4 a6) :
    Calls Ybaf.prog 32 #[.agg #[.int .u64 hi, .int .u64 lo, .pointer (some a4)], .int .i64 m] w fun e w' => e = .returned (.tuple #[pfxVal a4 (bits .and .u64 hi (mhi (m + 96))) (bits .and .u64 lo (mlo (m + 96))) m, .nilIface]) ∧ w.grownBy w' none := by
  have m1 : (m : Int) ≤ 32 := by omega
  have m2 : (0 : Int) ≤ (m : Int) := by omega
  have m3 : ¬ (m : Int) < 0 := by omega
  have m4 : ¬ (m : Int) > 32 := by omega
  have h1 := h.c0
  have h1' := h.c4
  have h2 := h.lt
  have h3 : 1 < w.heap.size := by omega
  have h4 : 2 < w.heap.size := by omega
  go_enter Ybaf.func32, Ybaf.ntmps32
  go_wp2_with fail
  have hcast : (((m + 96) : Nat) : Int) = (m : Int) + 96 := by omega
  have hM := mask6_any (m + 96) ((w.alloc (.cells #[.int .u64 hi, .int .u64 lo, .pointer (some a4)] 45)).alloc (.cells #[.int .u64 0, .int .u64 0, .pointer none, .int .u8 0] 47)).drew (by omega)
  rw [hcast] at hM
  have HM : Hid _ := hM
  clear hM
  refine wp_region_last (fun w' => w'.cell? ⟨w.heap.size, 0, none⟩ = some (.int .u64 hi) ∧ w'.cell? ⟨w.heap.size, 1, none⟩ = some (.int .u64 lo)) 6 (by kernel_rfl) ⟨by go_simp, by go_simp⟩ (fun hH => ?_)
  refine wpAnyL_takeD 0 (v := ?vq0) (by kernel_rfl) rfl (by kernel_rfl) (by kernel_rfl) (by kernel_rfl) (fun _ _ _ h => h) (by rfl) hH ?yq0 ?rq0
  case yq0 => (intro wz hSw; (try dsimp only at hSw); go_simp; try with_reducible rfl)
  try simp only [Act.put, List.setIfInBounds_toArray, List.set_cons_zero, List.set_cons_succ]
  refine wpAnyL_takeD 1 (v := ?vq1) (by kernel_rfl) rfl (by kernel_rfl) (by kernel_rfl) (by kernel_rfl) (fun _ _ _ h => h) (by rfl) hH ?yq1 ?rq1
  case yq1 => (intro wz hSw; (try dsimp only at hSw); go_simp; try with_reducible rfl)
  try simp only [Act.put, List.setIfInBounds_toArray, List.set_cons_zero, List.set_cons_succ]
  refine wpAnyL_takeD 2 (v := ?vq2) (by kernel_rfl) rfl (by kernel_rfl) (by kernel_rfl) (by kernel_rfl) (fun _ _ _ h => h) (by rfl) hH ?yq2 ?rq2
  case yq2 => (intro wz hSw; (try dsimp only at hSw); go_simp; try with_reducible rfl)
  try simp only [Act.put, List.setIfInBounds_toArray, List.set_cons_zero, List.set_cons_succ]
  refine wpAnyL_oneD 3 (by kernel_rfl) rfl (fun K hK => ?_)
  go_simp
  refine Calls.mono HM.out ?_
  rintro e w1 ⟨rfl, rfl⟩
  refine hK _ _ (fun _ => ⟨by go_simp, by go_simp⟩) (fun _ => ?_)
  clear hK K
  try simp only [Act.put, List.setIfInBounds_toArray, List.set_cons_zero, List.set_cons_succ]
  refine wpAnyL_oneD 4 (by kernel_rfl) rfl (fun K hK => ?_)
  go_simp
  refine (and_any hi lo (mhi (m + 96)) (mlo (m + 96)) _).mono ?_
  rintro e w1 ⟨rfl, rfl⟩
  refine hK _ _ (fun _ => ⟨by go_simp, by go_simp⟩) (fun _ => ?_)
  clear hK K
  try simp only [Act.put, List.setIfInBounds_toArray, List.set_cons_zero, List.set_cons_succ]
  refine wpAnyL_oneD 5 (by kernel_rfl) rfl (fun K hK => ?_)
  go_simp
  refine hK _ _ (fun _ => ⟨by go_simp, by go_simp⟩) (fun _ => ?_)
  clear hK K
  try simp only [Act.put, List.setIfInBounds_toArray, List.set_cons_zero, List.set_cons_succ]
  refine wpAnyL_oneD 6 (by kernel_rfl) rfl (fun K hK => ?_)
  go_simp
  refine hK _ _ (fun hno => absurd rfl hno) (fun _ => ?_)
  clear hK K
  try simp only [Act.put, List.setIfInBounds_toArray, List.set_cons_zero, List.set_cons_succ]
  refine wpAnyL_done (by kernel_rfl) ?_ _
  have hP := prefixFrom4_any a4 a6 (bits .and .u64 hi (mhi (m + 96))) (bits .and .u64 lo (mlo (m + 96))) m ((((((w.alloc (.cells #[.int .u64 (bits .and .u64 hi (mhi (m + 96))), .int .u64 (bits .and .u64 lo (mlo (m + 96))), .pointer (some a4)] 45)).alloc (.cells #[.int .u64 0, .int .u64 0, .pointer none, .int .u8 0] 47)).alloc (.cells #[.int .u64 (mhi (m + 96)), .int .u64 (mlo (m + 96))] 40)).alloc (.cells #[.int .u64 hi, .int .u64 lo] 40)).alloc (.cells #[.int .u64 (mhi (m + 96)), .int .u64 (mlo (m + 96))] 40)).alloc (.cells #[.int .u64 (bits .and .u64 hi (mhi (m + 96))), .int .u64 (bits .and .u64 lo (mlo (m + 96)))] 40)).drew.drew hm (h.grown (grown_then (@grown2 w (.cells #[.int .u64 (bits .and .u64 hi (mhi (m + 96))), .int .u64 (bits .and .u64 lo (mlo (m + 96))), .pointer (some a4)] 45) (.cells #[.int .u64 0, .int .u64 0, .pointer none, .int .u8 0] 47)) (grown_then (@grown2 _ (.cells #[.int .u64 (mhi (m + 96)), .int .u64 (mlo (m + 96))] 40) (.cells #[.int .u64 hi, .int .u64 lo] 40)) (grown_then (@grown2 _ (.cells #[.int .u64 (mhi (m + 96)), .int .u64 (mlo (m + 96))] 40) (.cells #[.int .u64 (bits .and .u64 hi (mhi (m + 96))), .int .u64 (bits .and .u64 lo (mlo (m + 96)))] 40)) (grown_then (grown_drew _ none) (grown_drew _ none))))))
  go_wp2_with (go_at_call 38; go_must (refine hP.mono ?_; rintro e w' ⟨rfl, rfl⟩; unfold pfxVal))
  refine bodyPost_ret (v := .tuple #[pfxVal a4 (bits .and .u64 hi (mhi (m + 96))) (bits .and .u64 lo (mlo (m + 96))) m, .nilIface]) (by simp [results, Ybaf.f32, go_sem, pfxVal]) rfl ⟨rfl, ?_⟩
  repeat (first | apply grown_alloc' | apply grown_drew')
  exact grown_refl w

set_option maxRecDepth 100000 in
set_option maxHeartbeats 4000000 in
theorem prefix6_any (a4 a6 : Go.Addr) (hi lo : Int) (m : Nat) (w : World) (hm : m ≤ 128) (h : Marks w a4 a6) :
    Calls Ybaf.prog 32 #[.agg #[.int .u64 hi, .int .u64 lo, .pointer (some a6)], .int .i64 m] w fun e w' => e = .returned (.tuple #[pfxVal a6 (bits .and .u64 hi (mhi m)) (bits .and .u64 lo (mlo m)) m, .nilIface]) ∧ w.grownBy w' none := by
  have m1 : (m : Int) ≤ 128 := by omega
  have m2 : (0 : Int) ≤ (m : Int) := by omega
  have m3 : ¬ (m : Int) < 0 := by omega
  have m4 : ¬ (m : Int) > 128 := by omega
  have h1 := h.c0
  have h1' := h.c4
  have h2 := h.lt
  have h3 : 1 < w.heap.size := by omega
  have h4 : 2 < w.heap.size := by omega
  have hoth := h.other (@grown2 w (.cells #[.int .u64 hi, .int .u64 lo, .pointer (some a6)] 45) (.cells #[.int .u64 0, .int .u64 0, .pointer none, .int .u8 0] 47))
  go_enter Ybaf.func32, Ybaf.ntmps32
  go_wp2_with fail
  have hM := mask6_any m ((w.alloc (.cells #[.int .u64 hi, .int .u64 lo, .pointer (some a6)] 45)).alloc (.cells #[.int .u64 0, .int .u64 0, .pointer none, .int .u8 0] 47)).drew (by omega)
  have HM : Hid _ := hM
  clear hM
  refine wp_region_last (fun w' => w'.cell? ⟨w.heap.size, 0, none⟩ = some (.int .u64 hi) ∧ w'.cell? ⟨w.heap.size, 1, none⟩ = some (.int .u64 lo)) 6 (by kernel_rfl) ⟨by go_simp, by go_simp⟩ (fun hH => ?_)
  refine wpAnyL_takeD 0 (v := ?vq0) (by kernel_rfl) rfl (by kernel_rfl) (by kernel_rfl) (by kernel_rfl) (fun _ _ _ h => h) (by rfl) hH ?yq0 ?rq0
  case yq0 => (intro wz hSw; (try dsimp only at hSw); go_simp; try with_reducible rfl)
  try simp only [Act.put, List.setIfInBounds_toArray, List.set_cons_zero, List.set_cons_succ]
  refine wpAnyL_takeD 1 (v := ?vq1) (by kernel_rfl) rfl (by kernel_rfl) (by kernel_rfl) (by kernel_rfl) (fun _ _ _ h => h) (by rfl) hH ?yq1 ?rq1
  case yq1 => (intro wz hSw; (try dsimp only at hSw); go_simp; try with_reducible rfl)
  try simp only [Act.put, List.setIfInBounds_toArray, List.set_cons_zero, List.set_cons_succ]
  refine wpAnyL_takeD 2 (v := ?vq2) (by kernel_rfl) rfl (by kernel_rfl) (by kernel_rfl) (by kernel_rfl) (fun _ _ _ h => h) (by rfl) hH ?yq2 ?rq2
  case yq2 => (intro wz hSw; (try dsimp only at hSw); go_simp; try with_reducible rfl)
  try simp only [Act.put, List.setIfInBounds_toArray, List.set_cons_zero, List.set_cons_succ]
  refine wpAnyL_oneD 3 (by kernel_rfl) rfl (fun K hK => ?_)
  go_simp
  refine Calls.mono HM.out ?_
  rintro e w1 ⟨rfl, rfl⟩
  refine hK _ _ (fun _ => ⟨by go_simp, by go_simp⟩) (fun _ => ?_)
  clear hK K
  try simp only [Act.put, List.setIfInBounds_toArray, List.set_cons_zero, List.set_cons_succ]
  refine wpAnyL_oneD 4 (by kernel_rfl) rfl (fun K hK => ?_)
  go_simp
  refine (and_any hi lo (mhi m) (mlo m) _).mono ?_
  rintro e w1 ⟨rfl, rfl⟩
  refine hK _ _ (fun _ => ⟨by go_simp, by go_simp⟩) (fun _ => ?_)
  clear hK K
  try simp only [Act.put, List.setIfInBounds_toArray, List.set_cons_zero, List.set_cons_succ]
  refine wpAnyL_oneD 5 (by kernel_rfl) rfl (fun K hK => ?_)
  go_simp
  refine hK _ _ (fun _ => ⟨by go_simp, by go_simp⟩) (fun _ => ?_)
  clear hK K
  try simp only [Act.put, List.setIfInBounds_toArray, List.set_cons_zero, List.set_cons_succ]
  refine wpAnyL_oneD 6 (by kernel_rfl) rfl (fun K hK => ?_)
  go_simp
  refine hK _ _ (fun hno => absurd rfl hno) (fun _ => ?_)
  clear hK K
  try simp only [Act.put, List.setIfInBounds_toArray, List.set_cons_zero, List.set_cons_succ]
  refine wpAnyL_done (by kernel_rfl) ?_ _
  have hP := prefixFrom6_any a4 a6 (bits .and .u64 hi (mhi m)) (bits .and .u64 lo (mlo m)) m ((((((w.alloc (.cells #[.int .u64 (bits .and .u64 hi (mhi m)), .int .u64 (bits .and .u64 lo (mlo m)), .pointer (some a6)] 45)).alloc (.cells #[.int .u64 0, .int .u64 0, .pointer none, .int .u8 0] 47)).alloc (.cells #[.int .u64 (mhi m), .int .u64 (mlo m)] 40)).alloc (.cells #[.int .u64 hi, .int .u64 lo] 40)).alloc (.cells #[.int .u64 (mhi m), .int .u64 (mlo m)] 40)).alloc (.cells #[.int .u64 (bits .and .u64 hi (mhi m)), .int .u64 (bits .and .u64 lo (mlo m))] 40)).drew.drew hm (h.grown (grown_then (@grown2 w (.cells #[.int .u64 (bits .and .u64 hi (mhi m)), .int .u64 (bits .and .u64 lo (mlo m)), .pointer (some a6)] 45) (.cells #[.int .u64 0, .int .u64 0, .pointer none, .int .u8 0] 47)) (grown_then (@grown2 _ (.cells #[.int .u64 (mhi m), .int .u64 (mlo m)] 40) (.cells #[.int .u64 hi, .int .u64 lo] 40)) (grown_then (@grown2 _ (.cells #[.int .u64 (mhi m), .int .u64 (mlo m)] 40) (.cells #[.int .u64 (bits .and .u64 hi (mhi m)), .int .u64 (bits .and .u64 lo (mlo m))] 40)) (grown_then (grown_drew _ none) (grown_drew _ none))))))
  go_wp2_with (go_at_call 38; go_must (refine hP.mono ?_; rintro e w' ⟨rfl, rfl⟩; unfold pfxVal))
  refine bodyPost_ret (v := .tuple #[pfxVal a6 (bits .and .u64 hi (mhi m)) (bits .and .u64 lo (mlo m)) m, .nilIface]) (by simp [results, Ybaf.f32, go_sem, pfxVal]) rfl ⟨rfl, ?_⟩
  repeat (first | apply grown_alloc' | apply grown_drew')
  exact grown_refl w

end Go.Proofs.YbulkaigaFmt
