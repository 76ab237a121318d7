import Derived.Test.YbulkaieyFmtRows
import Derived.WalkKit
import Derived.WalkSpells
import Derived.WalkLawsBesides
import Derived.Deep.RegionHeld3
import Derived.Deep.RegionWith
namespace Go.Proofs.YbulkaieyFmt
open Go.RowKit

set_option maxHeartbeats 400000 in
theorem tick_any (b : Nat) (n : Int) (w : World) (hn0 : 0 ≤ n) (hn : n ≤ 1000) (hc : w.cell? ⟨b, 0, none⟩ = some (.int .i64 n)) (hf : w.frozen? ⟨b, 0, none⟩ = false) :
    Calls Ybaf.prog 9 #[.pointer (some ⟨b, 0, none⟩)] w fun e w' => e = .returned (.tuple #[]) ∧ w' = w.setCell ⟨b, 0, none⟩ (.int .i64 (n + 1)) := by
  go_enter Ybaf.func9, Ybaf.ntmps9
  go_wp2
  go_end0
  exact ⟨rfl, rfl⟩

set_option maxHeartbeats 400000 in
theorem value_any (b : Nat) (n : Int) (w : World) (hc : w.cell? ⟨b, 0, none⟩ = some (.int .i64 n)) :
    Calls Ybaf.prog 8 #[.pointer (some ⟨b, 0, none⟩)] w fun e w' => e = .returned (.int .i64 n) ∧ w' = w := by
  go_enter Ybaf.func8, Ybaf.ntmps8
  go_wp2
  go_ret
  exact ⟨rfl, rfl⟩

set_option maxHeartbeats 400000 in
theorem send_any (b : Nat) (n : Int) (w : World) (hn0 : 0 ≤ n) (hn : n ≤ 1000) (hb : b < w.heap.size) (hc : w.cell? ⟨b, 0, none⟩ = some (.int .i64 n)) (hf : w.frozen? ⟨b, 0, none⟩ = false) :
    Calls Ybaf.prog 10 #[.pointer (some ⟨b, 0, none⟩)] w fun e w' => e = .returned (.agg #[.int .i64 (n + 1)]) ∧ w' = (w.setCell ⟨b, 0, none⟩ (.int .i64 (n + 1))).alloc (.cells #[.int .i64 (n + 1)] 28) := by
  go_enter Ybaf.func10, Ybaf.ntmps10
  go_wp2_with (go_at_call 9; refine (tick_any _ n _ hn0 hn (by go_simp) (by go_simp)).mono ?_; rintro e w' ⟨rfl, rfl⟩)
  exact bodyPost_ret (v := .agg #[.int .i64 (n + 1)]) (by simp [results, Ybaf.results10, go_sem]) rfl ⟨rfl, rfl⟩

set_option maxHeartbeats 400000 in
theorem max_any (a b : Int) (w : World) :
    Calls Ybaf.prog 15 #[.int .i64 a, .int .i64 b] w fun e w' => e = .returned (.int .i64 (wrap64 (max a b + 1))) ∧ w' = w := by
  go_enter Ybaf.func15, Ybaf.ntmps15
  go_wp2
  · go_ret
    rw [Int.max_eq_right (by omega)]
    exact ⟨rfl, rfl⟩
  · go_ret
    rw [Int.max_eq_left (by omega)]
    exact ⟨rfl, rfl⟩

set_option maxHeartbeats 400000 in
theorem check_ok (v : Int) (w : World) (h0 : 0 ≤ v) (h1 : v ≤ 4611686018427387903) :
    Calls Ybaf.prog 14 #[.int .i64 v] w fun e w' => e = .returned .nilIface ∧ w' = w := by
  go_enter Ybaf.func14, Ybaf.ntmps14
  go_wp2
  go_ret
  exact ⟨rfl, rfl⟩

set_option maxHeartbeats 400000 in
theorem receive_ok (b : Nat) (n v : Int) (w : World) (h0 : 0 ≤ v) (h1 : v ≤ 4611686018427387903) (hb : b < w.heap.size) (hc : w.cell? ⟨b, 0, none⟩ = some (.int .i64 n)) (hf : w.frozen? ⟨b, 0, none⟩ = false) :
    Calls Ybaf.prog 6 #[.pointer (some ⟨b, 0, none⟩), .agg #[.int .i64 v]] w fun e w' => e = .returned .nilIface ∧ w' = ((w.setCell ⟨b, 0, none⟩ (.int .i64 (wrap64 (max n v + 1)))).alloc (.cells #[.int .i64 v] 28)).drew := by
  go_enter Ybaf.func6, Ybaf.ntmps6
  go_wp2_with (go_at_call 14; refine (check_ok v _ h0 h1).mono ?_; rintro e w' ⟨rfl, rfl⟩)
  go_region_with (go_at_call 15; refine (max_any _ _ _).mono ?_; rintro e w' ⟨rfl, rfl⟩)
  all_goals go_wp2
  all_goals go_ret
  all_goals exact ⟨rfl, rfl⟩

theorem receive_r (b : Nat) (n v r : Int) (w : World) (h0 : 0 ≤ v) (h1 : v ≤ 4611686018427387903) (hb : b < w.heap.size) (hc : w.cell? ⟨b, 0, none⟩ = some (.int .i64 n)) (hf : w.frozen? ⟨b, 0, none⟩ = false) (hr : wrap64 (max n v + 1) = r) :
    Calls Ybaf.prog 6 #[.pointer (some ⟨b, 0, none⟩), .agg #[.int .i64 v]] w fun e w' => e = .returned .nilIface ∧ w' = ((w.setCell ⟨b, 0, none⟩ (.int .i64 r)).alloc (.cells #[.int .i64 v] 28)).drew := by
  subst hr
  exact receive_ok b n v w h0 h1 hb hc hf
end Go.Proofs.YbulkaieyFmt
