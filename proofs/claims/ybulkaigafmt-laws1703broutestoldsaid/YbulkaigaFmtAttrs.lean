import Derived.Test.YbulkaigaFmtASPath
namespace Go.Proofs.YbulkaigaFmt
open Go.RowKit

set_option maxRecDepth 100000 in
set_option maxHeartbeats 4000000 in
theorem readAttributes_none (R : Nat) (p : Option Addr) (c : Nat) (w : World) :
    Calls Ybaf.prog 33 #[.pointer (some ⟨R, 17, none⟩), .slice p 0 c, .int .i64 4] w fun e w' => e = .returned (.tuple #[.slice none 0 0, .slice none 0 0, .nilIface]) ∧ w' = w := by
  go_enter Ybaf.func33, Ybaf.ntmps33
  go_wp2_with fail
  refine wp_loop_rounds 1 ?_
  rw [rounds_succ]
  go_wp2_with fail
  go_ret3
  exact ⟨rfl, rfl⟩

set_option maxRecDepth 100000 in
set_option maxHeartbeats 4000000 in
theorem readAttributes_one (base R g o c : Nat) (s : St) (l : List Int) (w : World) (hl0 : 0 < l.length) (hl1 : l.length ≤ 63) (hr : ∀ x ∈ l, 0 ≤ x ∧ x ≤ 4294967295)
    (hc : 5 + 4 * l.length ≤ c) (hg : g < w.heap.size) (ho : Out R s g) (hb : Lies w g o ([64, 2, 2 + 4 * (l.length : Int), 2, (l.length : Int)] ++ l.flatMap be32)) (hnA : s.nA ≤ 900000) (hnS : s.nS ≤ 900000) (hQ : s.nQ = 0) (hx : s.xQ = []) (h : Bld w base R s) :
    Calls Ybaf.prog 33 #[.pointer (some ⟨R, 17, none⟩), .slice (some ⟨g, o, none⟩) (5 + 4 * l.length) c, .int .i64 4] w fun e w' => ∃ gA cA gS cS Q',
      e = .returned (.tuple #[.slice (some ⟨gS, s.nS * 2, none⟩) 1 1, .slice none 0 0, .nilIface]) ∧ Bld w' base R (s.path l gA cA gS cS Q') ∧ Keeps w w' R s (s.path l gA cA gS cS Q') := by
  have b0 : w.cell? ⟨g, o, none⟩ = some (.int .u8 64) := hb 0 _ rfl
  have b1 : w.cell? ⟨g, o + 1, none⟩ = some (.int .u8 2) := hb 1 _ rfl
  have b2 : w.cell? ⟨g, o + 2, none⟩ = some (.int .u8 (2 + 4 * (l.length : Int))) := hb 2 _ rfl
  have hP := fun name k => readASPath_any base R g (o + 3) s l name (w.drewN k) hl0 hl1 hr hg ho (show Lies (w.drewN k) g (o + 3) ([2, (l.length : Int)] ++ l.flatMap be32) from (Lies.right (a := [64, 2, 2 + 4 * (l.length : Int)]) hb)) hnA hnS hQ hx (h.grown (grown_drawn w none k))
  have HP : Hid _ := hP
  clear hP hb hQ hx hr ho
  obtain ⟨n, hn⟩ : ∃ n, n = l.length := ⟨_, rfl⟩
  rw [← hn] at hl0 hl1 hc b2 HP ⊢
  clear hn
  have hgt : (0 : Int) < 5 + 4 * (n : Int) := by omega
  have hge2 : ¬ 5 + 4 * (n : Int) < 3 := by omega
  have hlt0 : 0 < 5 + 4 * n := by omega
  have hlt1 : 1 < 5 + 4 * n := by omega
  have hlt2 : 2 < 5 + 4 * n := by omega
  have hs1 : 5 + 4 * n - 3 = 2 + 4 * n := by omega
  have hs3 : ¬ 5 + 4 * n = 3 := by omega
  have hs4 : (3 : Int) ≤ 5 + 4 * (n : Int) := by omega
  have hs5 : ¬ (2 + 4 * (n : Int) < 2 + 4 * (n : Int)) := by omega
  have hs6 : (2 + 4 * (n : Int)).toNat = 2 + 4 * n := by omega
  have hs7 : (0 : Int) ≤ 2 + 4 * (n : Int) := by omega
  go_enter Ybaf.func33, Ybaf.ntmps33
  go_wp2_with fail
  refine wp_loop_rounds 2 ?_
  rw [rounds_succ]
  go_wp2_with fail
  have hRl := h.RltH
  have hs8 : 2 + 4 * n ≤ c - 3 := by omega
  go_quiet (fail)
  go_wp2_with (go_at_call 39; go_must (refine (HP.out _ _).mono ?_; rintro e w5 ⟨gA, cA, gS, cS, Q2, rfl, h5, k5⟩))
  all_goals rw [rounds_succ]
  all_goals go_wp2_with fail
  all_goals go_ret3
  all_goals exact ⟨gA, cA, gS, cS, Q2, rfl, h5, (Keeps.grown hRl (grown_drawn w none _)).trans k5⟩
end Go.Proofs.YbulkaigaFmt
