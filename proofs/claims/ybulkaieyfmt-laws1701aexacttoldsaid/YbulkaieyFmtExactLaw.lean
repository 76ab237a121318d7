import Derived.Test.YbulkaieyFmtSendWalks
import Derived.Test.YbulkaieyFmtErrorf
import Derived.Test.YbulkaieyFmtIs
import Derived.Deep.QuietTactic
import Derived.BigQuiet
namespace Go.Proofs.YbulkaieyFmt
open Go.RowKit Go.Extern.Stop Go.Stop Go.Extern

set_option maxHeartbeats 1000000 in
theorem check_bad (F : Interp) (v : Int) (a : Addr) (s : ByteArray) (w : World) (hF : F.answers w.tape) (hg : w.cell? ⟨0, 0, none⟩ = some (.iface 99 (.pointer (some a)))) (hs : w.cell? a = some (.string s)) (ha : a.block < w.heap.size)
    (h : v < 0 ∨ 4611686018427387903 < v) :
    Calls Ybaf.prog 14 #[.int .i64 v] w fun e w' => e = .returned (.iface 98 (.pointer (some ⟨w.heap.size + 1, 0, none⟩))) ∧ ∃ o t, w' = ((w.alloc o).alloc (.cells #[.string t, .iface 99 (.pointer (some a))] 138)).drew := by
  have hs' : ∀ o, (w.alloc o).cell? a = some (.string s) := fun o => (World.cell?_alloc_lt (w := w) (o := o) (h := ha)).trans hs
  rcases h with h | h
  · go_enter Ybaf.func14, Ybaf.ntmps14
    go_wp2_with (go_at_call 18; refine (errorf_stamp F v a s _ _ (by exact hF) (by rw [World.cell?_alloc_at (hn := by simp)]; rfl) (by rw [World.cell?_alloc_at (hn := by simp)]; rfl) (by rw [World.cell?_alloc_at (hn := by simp)]; rfl) (hs' _)).mono ?_; rintro e w' ⟨rfl, t, rfl⟩)
    go_ret
    exact ⟨rfl, _, t, rfl⟩
  · have h' : ¬ v < 0 := by omega
    go_enter Ybaf.func14, Ybaf.ntmps14
    go_wp2_with (go_at_call 18; refine (errorf_stamp F v a s _ _ (by exact hF) (by rw [World.cell?_alloc_at (hn := by simp)]; rfl) (by rw [World.cell?_alloc_at (hn := by simp)]; rfl) (by rw [World.cell?_alloc_at (hn := by simp)]; rfl) (hs' _)).mono ?_; rintro e w' ⟨rfl, t, rfl⟩)
    go_ret
    exact ⟨rfl, _, t, rfl⟩

set_option maxHeartbeats 1000000 in
theorem receive_bad (F : Interp) (b : Nat) (v : Int) (a : Addr) (s : ByteArray) (w : World) (hF : F.answers w.tape) (hg : w.cell? ⟨0, 0, none⟩ = some (.iface 99 (.pointer (some a)))) (hs : w.cell? a = some (.string s)) (ha : a.block < w.heap.size) (h00 : 0 < w.heap.size)
    (h : v < 0 ∨ 4611686018427387903 < v) :
    Calls Ybaf.prog 6 #[.pointer (some ⟨b, 0, none⟩), .agg #[.int .i64 v]] w fun e w' => e = .returned (.iface 98 (.pointer (some ⟨w.heap.size + 2, 0, none⟩))) ∧ ∃ o1 o2 t, w' = (((w.alloc o1).alloc o2).alloc (.cells #[.string t, .iface 99 (.pointer (some a))] 138)).drew := by
  have hs' : ∀ o, (w.alloc o).cell? a = some (.string s) := fun o => (World.cell?_alloc_lt (w := w) (o := o) (h := ha)).trans hs
  have hg' : ∀ o, (w.alloc o).cell? ⟨0, 0, none⟩ = some (.iface 99 (.pointer (some a))) := fun o => (World.cell?_alloc_lt (w := w) (o := o) (h := h00)).trans hg
  go_enter Ybaf.func6, Ybaf.ntmps6
  go_wp2_with (go_at_call 14; refine (check_bad F v a s _ (by exact hF) (hg' _) (hs' _) (by simp; omega) h).mono ?_; rintro e w' ⟨rfl, o, t, rfl⟩)
  go_ret
  exact ⟨by simp, _, o, t, rfl⟩

set_option maxHeartbeats 1000000 in
theorem exact_bad (F : Interp) (start v : Int) (a : Addr) (s : ByteArray) (w : World) (hF : F.answers w.tape) (hg : w.cell? ⟨0, 0, none⟩ = some (.iface 99 (.pointer (some a)))) (hs : w.cell? a = some (.string s)) (ha : a.block < w.heap.size) (h00 : 0 < w.heap.size)
    (h : v < 0 ∨ 4611686018427387903 < v) :
    Calls Ybaf.prog 3 #[.int .i64 start, .int .i64 v] w fun e w' => e = .returned (.bool true) ∧ Below w.heap.size w w' := by
  have hs' : ∀ o, (w.alloc o).cell? a = some (.string s) := fun o => (World.cell?_alloc_lt (w := w) (o := o) (h := ha)).trans hs
  have hg' : ∀ o, (w.alloc o).cell? ⟨0, 0, none⟩ = some (.iface 99 (.pointer (some a))) := fun o => (World.cell?_alloc_lt (w := w) (o := o) (h := h00)).trans hg
  have h1 : 0 < w.heap.size + 1 := by omega
  have h2 : 0 < w.heap.size + 1 + 1 := by omega
  have h3 : 0 < w.heap.size + 1 + 1 + 1 := by omega
  rcases h with h | h
  · go_enter Ybaf.func3, Ybaf.ntmps3
    go_wp2_with (first
      | (go_at_call 6; refine (receive_bad F _ v a s _ (by exact hF) (hg' _) (hs' _) (by simp; omega) (by simp) (Or.inl h)).mono ?_; rintro e w' ⟨rfl, o1, o2, t, rfl⟩)
      | (go_at_call 7; refine (is_wrap_same _ _ a _ (by go_simp)).mono ?_; rintro e w' ⟨rfl, rfl⟩)
      | (go_at_call 8; refine (value_any _ start _ (by go_simp)).mono ?_; rintro e w' ⟨rfl, rfl⟩))
    go_ret
    exact ⟨rfl, (((((Below.refl _ w).alloc (Nat.le_refl _) _).alloc (by simp) _).alloc (by simp; omega) _).alloc (by simp; omega) _).drew⟩
  · have h' : ¬ v < 0 := by omega
    go_enter Ybaf.func3, Ybaf.ntmps3
    go_wp2_with (first
      | (go_at_call 6; refine (receive_bad F _ v a s _ (by exact hF) (hg' _) (hs' _) (by simp; omega) (by simp) (Or.inr h)).mono ?_; rintro e w' ⟨rfl, o1, o2, t, rfl⟩)
      | (go_at_call 7; refine (is_wrap_same _ _ a _ (by go_simp)).mono ?_; rintro e w' ⟨rfl, rfl⟩)
      | (go_at_call 8; refine (value_any _ start _ (by go_simp)).mono ?_; rintro e w' ⟨rfl, rfl⟩))
    go_ret
    exact ⟨rfl, (((((Below.refl _ w).alloc (Nat.le_refl _) _).alloc (by simp) _).alloc (by simp; omega) _).alloc (by simp; omega) _).drew⟩

set_option maxHeartbeats 1000000 in
theorem exact_ok (start v : Int) (w : World) (h0 : 0 ≤ v) (h1 : v ≤ 4611686018427387903) :
    Calls Ybaf.prog 3 #[.int .i64 start, .int .i64 v] w fun e w' => e = .returned (.bool true) ∧ Below w.heap.size w w' := by
  by_cases hlt : v < start
  · have Hr : Hid (wrap64 (max start v + 1) = wrap64 (start + 1)) := by
      show _ = _
      rw [Int.max_eq_left (by omega)]
    go_enter Ybaf.func3, Ybaf.ntmps3
    go_wp2_with (first
      | (go_at_call 6; refine (receive_r _ start v (wrap64 (start + 1)) _ h0 h1 (by simp) (by go_simp) (by go_simp) Hr.out).mono ?_; rintro e w' ⟨rfl, rfl⟩)
      | (go_at_call 8; refine (value_any _ (wrap64 (start + 1)) _ (by go_simp)).mono ?_; rintro e w' ⟨rfl, rfl⟩))
    go_ret
    exact ⟨rfl, (((Below.refl _ w).alloc (Nat.le_refl _) _).alloc (by simp) _).drew⟩
  · have Hr : Hid (wrap64 (max start v + 1) = v + 1) := by
      show _ = _
      rw [Int.max_eq_right (by omega)]; unfold wrap64; omega
    go_enter Ybaf.func3, Ybaf.ntmps3
    go_wp2_with (first
      | (go_at_call 6; refine (receive_r _ start v (v + 1) _ h0 h1 (by simp) (by go_simp) (by go_simp) Hr.out).mono ?_; rintro e w' ⟨rfl, rfl⟩)
      | (go_at_call 8; refine (value_any _ (v + 1) _ (by go_simp)).mono ?_; rintro e w' ⟨rfl, rfl⟩))
    go_ret
    exact ⟨rfl, (((Below.refl _ w).alloc (Nat.le_refl _) _).alloc (by simp) _).drew⟩
end Go.Proofs.YbulkaieyFmt
