import Derived.Test.YbulkaigaFmtNetip2
import Derived.LaidEql
namespace Go.Proofs.YbulkaigaFmt
open Go.RowKit
/-- The mask of n leading ones, its upper and its lower half. -/
def mhi (n : Nat) : Int := bits .xor .u64 IntKind.u64.max (18446744073709551615 / 2 ^ min n 64)
def mlo (n : Nat) : Int := IntKind.u64.wrap (18446744073709551615 * 2 ^ min (128 - n) 64)

set_option maxRecDepth 100000 in
set_option maxHeartbeats 4000000 in
theorem mask6_any (n : Nat) (w : World) (hn : n ≤ 128) :
    Calls Ybaf.prog 37 #[.int .i64 n] w fun e w' => e = .returned (.agg #[.int .u64 (mhi n), .int .u64 (mlo n)]) ∧ w' = (w.alloc (.cells #[.int .u64 (mhi n), .int .u64 (mlo n)] 40)).drew := by
  have h1 : (0 : Int) ≤ (n : Int) := by omega
  have h2 : (0 : Int) ≤ 128 - (n : Int) := by omega
  have h3 : (n : Int) ≤ 128 := by omega
  have h4 : IntKind.i64.wrap (128 - (n : Int)) = 128 - (n : Int) := by simp [IntKind.wrap, IntKind.bits, IntKind.signed]; omega
  go_enter Ybaf.func37, Ybaf.ntmps37
  go_wp2_with fail
  go_region
  go_wp2_with fail
  refine bodyPost_ret (v := .agg #[.int .u64 (mhi n), .int .u64 (mlo n)]) (by simp [results, Ybaf.f37, go_sem, mhi, mlo]) rfl ⟨rfl, ?_⟩
  rfl

set_option maxRecDepth 100000 in
set_option maxHeartbeats 4000000 in
theorem and_any (x y z t : Int) (w : World) :
    Calls Ybaf.prog 36 #[.agg #[.int .u64 x, .int .u64 y], .agg #[.int .u64 z, .int .u64 t]] w fun e w' => e = .returned (.agg #[.int .u64 (bits .and .u64 x z), .int .u64 (bits .and .u64 y t)]) ∧ w' = ((w.alloc (.cells #[.int .u64 x, .int .u64 y] 40)).alloc (.cells #[.int .u64 z, .int .u64 t] 40)).alloc (.cells #[.int .u64 (bits .and .u64 x z), .int .u64 (bits .and .u64 y t)] 40) := by
  go_enter Ybaf.func36, Ybaf.ntmps36
  go_wp2_with fail
  refine bodyPost_ret (v := .agg #[.int .u64 (bits .and .u64 x z), .int .u64 (bits .and .u64 y t)]) (by simp [results, Ybaf.f36, go_sem]) rfl ⟨rfl, ?_⟩
  rfl

theorem eq41_nil (a : Go.Addr) (w : World) : (Op.equalIn 9999 41 (.pointer (some a)) (.pointer none)).run Ybaf.prog w = .ok false w := by kernel_rfl
theorem eq41_same (a : Go.Addr) (w : World) : (Op.equalIn 9999 41 (.pointer (some a)) (.pointer (some a))).run Ybaf.prog w = .ok true w := by
  have h1 : (Op.equalIn 9999 41 (.pointer (some a)) (.pointer (some a))).run Ybaf.prog w = (sameAddr a a).run Ybaf.prog w := by kernel_rfl
  rw [h1]; exact run_sameAddr_same w a
theorem eq41_other {a b : Go.Addr} {w : World} (hne : a ≠ b) (ha : ∃ cs t, w.heap[a.block]? = some (.cells cs t (0, 0))) (hb : ∃ cs t, w.heap[b.block]? = some (.cells cs t (0, 0))) : (Op.equalIn 9999 41 (.pointer (some a)) (.pointer (some b))).run Ybaf.prog w = .ok false w := by
  obtain ⟨c1, t1, ha⟩ := ha
  obtain ⟨c2, t2, hb⟩ := hb
  have h1 : (Op.equalIn 9999 41 (.pointer (some a)) (.pointer (some b))).run Ybaf.prog w = (sameAddr a b).run Ybaf.prog w := by kernel_rfl
  rw [h1]; exact run_sameAddr_other w hne ha hb
theorem Marks.other {w w' : World} {a4 a6 : Go.Addr} (h : Marks w a4 a6) (g : w.grownBy w' none) : (Op.equalIn 9999 41 (.pointer (some a6)) (.pointer (some a4))).run Ybaf.prog w' = .ok false w' :=
  eq41_other h.ne (h.grown g).b6 (h.grown g).b4
attribute [local go_sem] eq41_nil eq41_same

set_option maxRecDepth 100000 in
set_option maxHeartbeats 4000000 in
theorem isZero_any (a4 a6 a : Go.Addr) (hi lo : Int) (w : World) (h : Marks w a4 a6) :
    Calls Ybaf.prog 42 #[.agg #[.int .u64 hi, .int .u64 lo, .pointer (some a)]] w fun e w' => e = .returned (.bool false) ∧ w' = w.alloc (.cells #[.int .u64 hi, .int .u64 lo, .pointer (some a)] 45) := by
  have h1 := h.c0
  have h2 := h.lt
  have h3 : 1 < w.heap.size := by omega
  have h4 : 2 < w.heap.size := by omega
  clear h
  go_enter Ybaf.func42, Ybaf.ntmps42
  go_wp2_with fail
  go_ret
  exact ⟨rfl, rfl⟩

set_option maxRecDepth 100000 in
set_option maxHeartbeats 4000000 in
theorem bitLen4_any (a4 a6 : Go.Addr) (hi lo : Int) (w : World) (h : Marks w a4 a6) :
    Calls Ybaf.prog 43 #[.agg #[.int .u64 hi, .int .u64 lo, .pointer (some a4)]] w fun e w' => e = .returned (.int .i64 32) ∧ w' = w.alloc (.cells #[.int .u64 hi, .int .u64 lo, .pointer (some a4)] 45) := by
  have h1 := h.c0
  have h1' := h.c4
  have h2 := h.lt
  have h3 : 1 < w.heap.size := by omega
  have h4 : 2 < w.heap.size := by omega
  clear h
  go_enter Ybaf.func43, Ybaf.ntmps43
  go_wp2_with fail
  go_ret
  exact ⟨rfl, rfl⟩

set_option maxRecDepth 100000 in
set_option maxHeartbeats 4000000 in
theorem bitLen6_any (a4 a6 : Go.Addr) (hi lo : Int) (w : World) (h : Marks w a4 a6) :
    Calls Ybaf.prog 43 #[.agg #[.int .u64 hi, .int .u64 lo, .pointer (some a6)]] w fun e w' => e = .returned (.int .i64 128) ∧ w' = w.alloc (.cells #[.int .u64 hi, .int .u64 lo, .pointer (some a6)] 45) := by
  have h1 := h.c0
  have h1' := h.c4
  have h2 := h.lt
  have h3 : 1 < w.heap.size := by omega
  have h4 : 2 < w.heap.size := by omega
  have hb := h.other (World.grownBy_alloc w (.cells #[.int .u64 hi, .int .u64 lo, .pointer (some a6)] 45) none)
  clear h
  go_enter Ybaf.func43, Ybaf.ntmps43
  go_wp2_with fail
  go_ret
  exact ⟨rfl, rfl⟩
set_option maxRecDepth 100000 in
set_option maxHeartbeats 4000000 in
theorem is64_any (a4 a6 : Go.Addr) (hi lo : Int) (w : World) (h : Marks w a4 a6) :
    Calls Ybaf.prog 53 #[.agg #[.int .u64 hi, .int .u64 lo, .pointer (some a4)]] w fun e w' => e = .returned (.bool false) ∧ w' = w.alloc (.cells #[.int .u64 hi, .int .u64 lo, .pointer (some a4)] 45) := by
  have h1 := h.c0
  have h1' := h.c4
  have h1'' := h.c6
  have h2 := h.lt
  have h3 : 1 < w.heap.size := by omega
  have h4 : 2 < w.heap.size := by omega
  clear h
  go_enter Ybaf.func53, Ybaf.ntmps53
  go_wp2_with fail
  go_ret
  exact ⟨rfl, rfl⟩

set_option maxRecDepth 100000 in
set_option maxHeartbeats 4000000 in
theorem noZone4_any (a4 a6 : Go.Addr) (hi lo : Int) (w : World) (h : Marks w a4 a6) :
    Calls Ybaf.prog 44 #[.agg #[.int .u64 hi, .int .u64 lo, .pointer (some a4)]] w fun e w' => e = .returned (.agg #[.int .u64 hi, .int .u64 lo, .pointer (some a4)]) ∧ w' = ((w.alloc (.cells #[.int .u64 hi, .int .u64 lo, .pointer (some a4)] 45)).alloc (.cells #[.int .u64 hi, .int .u64 lo, .pointer (some a4)] 45)).alloc (.cells #[.int .u64 hi, .int .u64 lo, .pointer (some a4)] 45) := by
  have h1 := h.c0
  have h1' := h.c4
  have h1'' := h.c6
  have h2 := h.lt
  have h3 : 1 < w.heap.size := by omega
  have h4 : 2 < w.heap.size := by omega
  have g1 : w.grownBy ((w.alloc (.cells #[.int .u64 hi, .int .u64 lo, .pointer (some a4)] 45)).alloc (.cells #[.int .u64 0, .int .u64 0, .pointer none] 45)) none := (World.grownBy_alloc w _ none).andThen (World.grownBy_alloc _ _ none) (fun _ h => Or.inr h)
  have h5 := h.grown g1
  clear h
  go_enter Ybaf.func44, Ybaf.ntmps44
  go_wp2_with (go_at_call 53; go_must (refine (is64_any a4 a6 hi lo _ h5).mono ?_; rintro e w' ⟨rfl, rfl⟩))
  refine bodyPost_ret (v := .agg #[.int .u64 hi, .int .u64 lo, .pointer (some a4)]) (by simp [results, Ybaf.f44, go_sem]) rfl ⟨rfl, ?_⟩
  rfl

set_option maxRecDepth 100000 in
set_option maxHeartbeats 4000000 in
theorem is66_any (a4 a6 : Go.Addr) (hi lo : Int) (w : World) (h : Marks w a4 a6) :
    Calls Ybaf.prog 53 #[.agg #[.int .u64 hi, .int .u64 lo, .pointer (some a6)]] w fun e w' => e = .returned (.bool true) ∧ w' = w.alloc (.cells #[.int .u64 hi, .int .u64 lo, .pointer (some a6)] 45) := by
  have h1 := h.c0
  have h1' := h.c4
  have h1'' := h.c6
  have h2 := h.lt
  have h3 : 1 < w.heap.size := by omega
  have h4 : 2 < w.heap.size := by omega
  have hb := h.other (World.grownBy_alloc w (.cells #[.int .u64 hi, .int .u64 lo, .pointer (some a6)] 45) none)
  clear h
  go_enter Ybaf.func53, Ybaf.ntmps53
  go_wp2_with fail
  go_ret
  exact ⟨rfl, rfl⟩

set_option maxRecDepth 100000 in
set_option maxHeartbeats 4000000 in
theorem noZone6_any (a4 a6 : Go.Addr) (hi lo : Int) (w : World) (h : Marks w a4 a6) :
    Calls Ybaf.prog 44 #[.agg #[.int .u64 hi, .int .u64 lo, .pointer (some a6)]] w fun e w' => e = .returned (.agg #[.int .u64 hi, .int .u64 lo, .pointer (some a6)]) ∧ w' = ((w.alloc (.cells #[.int .u64 hi, .int .u64 lo, .pointer (some a6)] 45)).alloc (.cells #[.int .u64 hi, .int .u64 lo, .pointer (some a6)] 45)).alloc (.cells #[.int .u64 hi, .int .u64 lo, .pointer (some a6)] 45) := by
  have h1 := h.c0
  have h1' := h.c4
  have h1'' := h.c6
  have h2 := h.lt
  have h3 : 1 < w.heap.size := by omega
  have h4 : 2 < w.heap.size := by omega
  have g1 : w.grownBy ((w.alloc (.cells #[.int .u64 hi, .int .u64 lo, .pointer (some a6)] 45)).alloc (.cells #[.int .u64 0, .int .u64 0, .pointer none] 45)) none := (World.grownBy_alloc w _ none).andThen (World.grownBy_alloc _ _ none) (fun _ h => Or.inr h)
  have h5 := h.grown g1
  have k6 : (((w.alloc (.cells #[.int .u64 hi, .int .u64 lo, .pointer (some a6)] 45)).alloc (.cells #[.int .u64 0, .int .u64 0, .pointer none] 45)).alloc (.cells #[.int .u64 hi, .int .u64 lo, .pointer (some a6)] 45)).cell? ⟨1, 0, none⟩ = some (.pointer (some a6)) := (h5.grown (World.grownBy_alloc _ (.cells #[.int .u64 hi, .int .u64 lo, .pointer (some a6)] 45) none)).c6
  clear h
  go_enter Ybaf.func44, Ybaf.ntmps44
  go_wp2_with (go_at_call 53; go_must (refine (is66_any a4 a6 hi lo _ h5).mono ?_; rintro e w' ⟨rfl, rfl⟩))
  refine bodyPost_ret (v := .agg #[.int .u64 hi, .int .u64 lo, .pointer (some a6)]) (by simp [results, Ybaf.f44, go_sem]) rfl ⟨rfl, ?_⟩
  rfl

end Go.Proofs.YbulkaigaFmt
