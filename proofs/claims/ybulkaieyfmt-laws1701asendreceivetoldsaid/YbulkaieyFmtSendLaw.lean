import Derived.Test.YbulkaieyFmtSendWalks
namespace Go.Proofs.YbulkaieyFmt
open Go.RowKit

set_option maxHeartbeats 1000000 in
theorem sendReceive_any (n k : Int) (w : World) (hn0 : 0 ≤ n) (hn : n ≤ 255) (hk0 : 0 ≤ k) (hk : k ≤ 255) :
    Calls Ybaf.prog 4 #[.int .u8 n, .int .u8 k] w fun e w' => e = .returned (.bool true) ∧ Below w.heap.size w w' := by
  go_enter Ybaf.func4, Ybaf.ntmps4
  go_wp2_with fail
  go_loopw [6] (fun i wr => ∃ j : Int, 0 ≤ j ∧ j ≤ k ∧ i = .int .i64 j ∧ Below w.heap.size w wr ∧ wr.heap.size = w.heap.size + 1 ∧ wr.cell? ⟨w.heap.size, 0, none⟩ = some (.int .i64 j) ∧ wr.frozen? ⟨w.heap.size, 0, none⟩ = false) (fun i _ => (k - intOf i).toNat)
  case atStart => exact ⟨0, by omega, by omega, rfl, (Below.refl _ _).alloc (Nat.le_refl _) _, by simp, by go_simp, by go_simp⟩
  case round =>
    obtain ⟨j, hj0, hj, rfl, hB, hz, hc, hf⟩ := hrel
    by_cases hlt : j < k
    · go_wp2_with (go_at_call 9; refine (tick_any _ j _ hj0 (by omega) hc hf).mono ?_; rintro e w' ⟨rfl, rfl⟩)
      go_roundw
      case rel => exact ⟨j + 1, by omega, by omega, rfl, hB.setCell (Nat.le_refl _) _, by simp [hz], World.cell?_setCell_same _ _ _ hc, by simp [hf]⟩
      case measure => simp [intOf]; omega
    · obtain rfl : j = k := by omega
      have hb : w.heap.size < wr.heap.size := by omega
      go_wp2_with (go_at_call 10; refine (send_any _ j _ hj0 (by omega) hb hc hf).mono ?_; rintro e w' ⟨rfl, rfl⟩)
      go_loopw [9] (fun i ws => ∃ m : Int, 0 ≤ m ∧ m ≤ n ∧ i = .int .i64 m ∧ Below w.heap.size w ws ∧ ws.heap.size = w.heap.size + 1 + 1 + 1 + 1 ∧ ws.cell? ⟨w.heap.size + 1 + 1, 0, none⟩ = some (.int .i64 (j + 1)) ∧ ws.cell? ⟨w.heap.size + 1 + 1 + 1, 0, none⟩ = some (.int .i64 m) ∧ ws.frozen? ⟨w.heap.size + 1 + 1 + 1, 0, none⟩ = false) (fun i _ => (n - intOf i).toNat)
      case atStart => exact ⟨0, by omega, by omega, rfl, (((hB.setCell (Nat.le_refl _) _).alloc (by simp; omega) _).alloc (by simp; omega) _).alloc (by simp; omega) _, by simp [hz], by go_simp, by go_simp, by go_simp⟩
      case round =>
        obtain ⟨m, hm0, hm, rfl, hB2, hz2, hs2, hc2, hf2⟩ := hrel
        clear hc hf hB
        by_cases hlt2 : m < n
        · go_wp2_with (go_at_call 9; refine (tick_any _ m _ hm0 (by omega) hc2 hf2).mono ?_; rintro e w' ⟨rfl, rfl⟩)
          go_roundw
          case rel => exact ⟨m + 1, by omega, by omega, rfl, hB2.setCell (by simp; omega) _, by simp [hz2], by go_simp, World.cell?_setCell_same _ _ _ hc2, by simp [hf2]⟩
          case measure => simp [intOf]; omega
        · obtain rfl : m = n := by omega
          have hb2 : w.heap.size + 1 + 1 + 1 < wr.heap.size := by omega
          by_cases hmj : m ≤ j + 1
          · have Hr : Hid (wrap64 (max m (j + 1) + 1) = j + 2) := by
              show _ = _
              rw [Int.max_eq_right hmj]; unfold wrap64; omega
            go_wp2_with (first
              | (go_at_call 8; refine (value_any _ m _ hc2).mono ?_; rintro e w' ⟨rfl, rfl⟩)
              | (go_at_call 6; refine (receive_r _ m (j + 1) (j + 2) _ (by omega) (by omega) hb2 hc2 hf2 Hr.out).mono ?_; rintro e w' ⟨rfl, rfl⟩)
              | (go_at_call 8; refine (value_any _ (j + 2) _ (by go_simp)).mono ?_; rintro e w' ⟨rfl, rfl⟩))
            all_goals go_ret
            all_goals exact ⟨rfl, ((hB2.setCell (by simp; omega) _).alloc (by simp; omega) _).drew⟩
          · have Hr : Hid (wrap64 (max m (j + 1) + 1) = m + 1) := by
              show _ = _
              rw [Int.max_eq_left (by omega)]; unfold wrap64; omega
            go_wp2_with (first
              | (go_at_call 8; refine (value_any _ m _ hc2).mono ?_; rintro e w' ⟨rfl, rfl⟩)
              | (go_at_call 6; refine (receive_r _ m (j + 1) (m + 1) _ (by omega) (by omega) hb2 hc2 hf2 Hr.out).mono ?_; rintro e w' ⟨rfl, rfl⟩)
              | (go_at_call 8; refine (value_any _ (m + 1) _ (by go_simp)).mono ?_; rintro e w' ⟨rfl, rfl⟩))
            all_goals go_ret
            all_goals exact ⟨rfl, ((hB2.setCell (by simp; omega) _).alloc (by simp; omega) _).drew⟩
end Go.Proofs.YbulkaieyFmt
