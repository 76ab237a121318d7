import Derived.Test.YbulkaieySourceRows
namespace Go.Proofs.Ybulkaiey
open Go.RowKit

set_option maxHeartbeats 1000000 in
theorem re_none (own g cap : Nat) (p : Option Addr) (w : World) (ho : own < 3) (hg : g < 3) :
    Calls Yba.prog 10 #[.slice p 0 cap, .int .i64 (g : Int), .int .i64 (own : Int), .int .i64 3] w fun r w' => r = .returned (.int .i64 0) ∧ w' = w := by
  have h1 : own = 0 ∨ own = 1 ∨ own = 2 := by omega
  have h2 : g = 0 ∨ g = 1 ∨ g = 2 := by omega
  rcases h1 with rfl | rfl | rfl <;> rcases h2 with rfl | rfl | rfl
  all_goals clear ho hg
  all_goals go_enter Yba.func10, Yba.ntmps10
  all_goals go_wp2
  all_goals go_ret
  all_goals exact ⟨rfl, rfl⟩

set_option maxHeartbeats 2000000 in
theorem re_one (own g o cap bb off : Nat) (x : Int) (w : World) (ho : own < 3) (hg : g < 3) (ho2 : o < 3) (hne : g ≠ own) (hno : o ≠ own) (hx0 : 0 ≤ x) (hx4 : x ≤ 4)
    (c0 : w.cell? ⟨bb, off, none⟩ = some (.int .i32 (o : Int))) (c1 : w.cell? ⟨bb, off + 1, none⟩ = some (.int .i32 x)) :
    Calls Yba.prog 10 #[.slice (some ⟨bb, off, none⟩) 1 cap, .int .i64 (g : Int), .int .i64 (own : Int), .int .i64 3] w fun r w' => r = .returned (.int .i64 (if g = o then x else 0)) ∧ w' = w := by
  have h1 : own = 0 ∨ own = 1 ∨ own = 2 := by omega
  have h2 : g = 0 ∨ g = 1 ∨ g = 2 := by omega
  have h3 : o = 0 ∨ o = 1 ∨ o = 2 := by omega
  rcases h1 with rfl | rfl | rfl <;> rcases h2 with rfl | rfl | rfl <;> first | (exact absurd rfl hne) | (rcases h3 with rfl | rfl | rfl <;> first | (exact absurd rfl hno) | skip)
  all_goals clear ho hg ho2 hne hno
  all_goals go_enter Yba.func10, Yba.ntmps10
  all_goals go_wp2
  all_goals go_ret
  all_goals exact ⟨rfl, rfl⟩

set_option maxHeartbeats 2000000 in
theorem re_two (own g o0 o1 cap bb off : Nat) (x y : Int) (w : World) (ho : own < 3) (hg : g < 3) (ho1 : o1 < 3) (hlt : o0 < o1) (hne : g ≠ own) (hn0 : o0 ≠ own) (hn1 : o1 ≠ own) (hx0 : 0 ≤ x) (hx4 : x ≤ 4) (hy0 : 0 ≤ y) (hy4 : y ≤ 4)
    (c0 : w.cell? ⟨bb, off, none⟩ = some (.int .i32 (o0 : Int))) (c1 : w.cell? ⟨bb, off + 1, none⟩ = some (.int .i32 x)) (c2 : w.cell? ⟨bb, off + 2, none⟩ = some (.int .i32 (o1 : Int))) (c3 : w.cell? ⟨bb, off + 2 + 1, none⟩ = some (.int .i32 y)) :
    Calls Yba.prog 10 #[.slice (some ⟨bb, off, none⟩) 2 cap, .int .i64 (g : Int), .int .i64 (own : Int), .int .i64 3] w fun r w' => r = .returned (.int .i64 (if g = o0 then x else y)) ∧ w' = w := by
  have h1 : own = 0 ∧ o0 = 1 ∧ o1 = 2 ∨ own = 1 ∧ o0 = 0 ∧ o1 = 2 ∨ own = 2 ∧ o0 = 0 ∧ o1 = 1 := by omega
  have h2 : g = 0 ∨ g = 1 ∨ g = 2 := by omega
  rcases h1 with ⟨rfl, rfl, rfl⟩ | ⟨rfl, rfl, rfl⟩ | ⟨rfl, rfl, rfl⟩ <;> rcases h2 with rfl | rfl | rfl <;> first | (exact absurd rfl hne) | skip
  all_goals clear ho hg ho1 hlt hne hn0 hn1
  all_goals go_enter Yba.func10, Yba.ntmps10
  all_goals go_wp2
  all_goals go_ret
  all_goals exact ⟨rfl, rfl⟩

/-- The two other hosts, in order. -/
def oth0 (a : Nat) : Nat := if a = 0 then 1 else 0
def oth1 (a : Nat) : Nat := if a = 2 then 1 else 2
theorem rowL_two (T : Nat → Int) (a k : Nat) (ha : a < 3) : rowL T a k = (if t3 T a k (oth0 a) ≠ 0 then [(oth0 a, t3 T a k (oth0 a))] else []) ++ (if t3 T a k (oth1 a) ≠ 0 then [(oth1 a, t3 T a k (oth1 a))] else []) := by
  have h3 : a = 0 ∨ a = 1 ∨ a = 2 := by omega
  rcases h3 with rfl | rfl | rfl <;> simp [rowL, rowTo, oth0, oth1]
theorem oth_lt {a : Nat} (ha : a < 3) : oth0 a < oth1 a ∧ oth1 a < 3 ∧ oth0 a ≠ a ∧ oth1 a ≠ a ∧ ∀ g, g < 3 → g ≠ a → g = oth0 a ∨ g = oth1 a := by
  have h3 : a = 0 ∨ a = 1 ∨ a = 2 := by omega
  rcases h3 with rfl | rfl | rfl <;> simp [oth0, oth1] <;> omega

/-- rowEntry over a row that lies in memory. -/
theorem re_any (w : World) (T : Nat → Int) (own g k cap : Nat) (p : Option Addr) (R : List (Nat × Int)) (hT : ∀ i, 0 ≤ T i ∧ T i ≤ 4) (ho : own < 3) (hg : g < 3) (hne : g ≠ own) (hM : RowMem w R p) (hR : R = rowL T own k) :
    Calls Yba.prog 10 #[.slice p R.length cap, .int .i64 (g : Int), .int .i64 (own : Int), .int .i64 3] w fun r w' => r = .returned (.int .i64 (t3 T own k g)) ∧ w' = w := by
  obtain ⟨o1, o2, o3, o4, o5⟩ := oth_lt ho
  have hx := hT (own * 15 + k * 3 + oth0 own)
  have hy := hT (own * 15 + k * 3 + oth1 own)
  rw [rowL_two T own k ho] at hR
  change 0 ≤ t3 T own k (oth0 own) ∧ t3 T own k (oth0 own) ≤ 4 at hx
  change 0 ≤ t3 T own k (oth1 own) ∧ t3 T own k (oth1 own) ≤ 4 at hy
  have hgo := o5 g hg hne
  by_cases h0 : t3 T own k (oth0 own) = 0
  · by_cases h1 : t3 T own k (oth1 own) = 0
    · simp only [h0, h1, ne_eq, not_true_eq_false, if_false, List.append_nil] at hR
      subst hR
      refine (re_none own g cap p w ho hg).mono ?_
      rintro r w' ⟨rfl, rfl⟩
      refine ⟨?_, rfl⟩
      rcases hgo with rfl | rfl
      · rw [h0]
      · rw [h1]
    · simp only [h0, h1, ne_eq, not_true_eq_false, not_false_eq_true, if_false, if_true, List.nil_append] at hR
      subst hR
      obtain ⟨bb, o, rfl, c0, c1⟩ := hM 0 _ rfl
      simp only [Nat.zero_mul, Nat.add_zero] at c0 c1
      refine (re_one own g (oth1 own) cap bb o _ w ho hg o2 hne o4 hy.1 hy.2 c0 c1).mono ?_
      rintro r w' ⟨rfl, rfl⟩
      refine ⟨?_, rfl⟩
      rcases hgo with rfl | rfl
      · rw [if_neg (by omega), h0]
      · rw [if_pos rfl]
  · by_cases h1 : t3 T own k (oth1 own) = 0
    · simp only [h0, h1, ne_eq, not_true_eq_false, not_false_eq_true, if_false, if_true, List.append_nil] at hR
      subst hR
      obtain ⟨bb, o, rfl, c0, c1⟩ := hM 0 _ rfl
      simp only [Nat.zero_mul, Nat.add_zero] at c0 c1
      refine (re_one own g (oth0 own) cap bb o _ w ho hg (by omega) hne o3 hx.1 hx.2 c0 c1).mono ?_
      rintro r w' ⟨rfl, rfl⟩
      refine ⟨?_, rfl⟩
      rcases hgo with rfl | rfl
      · rw [if_pos rfl]
      · rw [if_neg (by omega), h1]
    · simp only [h0, h1, ne_eq, not_false_eq_true, if_true, List.cons_append, List.nil_append] at hR
      subst hR
      obtain ⟨bb, o, rfl, c0, c1⟩ := hM 0 _ rfl
      obtain ⟨bb', o', e', c2, c3⟩ := hM 1 _ rfl
      cases e'
      simp only [Nat.zero_mul, Nat.add_zero, Nat.one_mul] at c0 c1 c2 c3
      refine (re_two own g (oth0 own) (oth1 own) cap bb o _ _ w ho hg o2 o1 hne o3 o4 hx.1 hx.2 hy.1 hy.2 c0 c1 c2 c3).mono ?_
      rintro r w' ⟨rfl, rfl⟩
      refine ⟨?_, rfl⟩
      rcases hgo with rfl | rfl
      · rw [if_pos rfl]
      · rw [if_neg (by omega)]

theorem RowMem.drewN {w : World} {R : List (Nat × Int)} {p : Option Addr} (h : RowMem w R p) (m : Nat) : RowMem (w.drewN m) R p := h
theorem ExecMem.drewN {w : World} {T : Nat → Int} {c : Nat → Nat} {xb hb cl : Nat} (h : ExecMem w T c xb hb cl) (m : Nat) : ExecMem (w.drewN m) T c xb hb cl :=
  ⟨h.hosts, h.clocks, fun a ha => by obtain ⟨rb, cb, eb, pb, cap, hm⟩ := h.host a ha; exact ⟨rb, cb, eb, pb, cap, hm.drewN m⟩⟩

set_option maxHeartbeats 1000000 in
theorem entry_own (w : World) (T : Nat → Int) (c : Nat → Nat) (xb hb cl a k : Nat) (hx : ExecMem w T c xb hb cl) (ha : a < 3) :
    Calls Yba.prog 6 #[.pointer (some ⟨xb, 0, none⟩), .int .i64 (a : Int), .int .i64 (k : Int), .int .i64 (a : Int)] w fun r w' => r = .returned (.int .i64 (if k ≤ c a then (k : Int) else 0)) ∧ ∃ n, w' = w.drewN n := by
  have hc := own_any w T c xb hb cl a k hx ha
  generalize (if k ≤ c a then (k : Int) else 0) = v at hc ⊢
  have Hc : Hid (Calls Yba.prog 9 #[.pointer (some ⟨xb, 0, none⟩), .int .i64 (a : Int), .int .i64 (k : Int)] w fun r w' => r = .returned (.int .i64 v) ∧ ∃ n, w' = w.drewN n) := hc
  clear hc hx
  go_enter Yba.func6, Yba.ntmps6
  go_wp2_with fail
  refine Hc.out.mono ?_
  rintro r w' ⟨rfl, n, rfl⟩
  go_wp2_with fail
  go_ret
  exact ⟨rfl, n, rfl⟩

set_option maxHeartbeats 1000000 in
theorem entry_walk (w : World) (xb hb a k g : Nat) (p : Option Addr) (len cap' : Nat) (v : Int) (hne : g ≠ a) (h0 : w.cell? ⟨xb, 0, none⟩ = some (.slice (some ⟨hb, 0, none⟩) 3 3))
    (h : ∀ m, Calls Yba.prog 7 #[.pointer (some ⟨xb, 0, none⟩), .int .i64 (a : Int), .int .i64 (k : Int)] (w.drewN m) fun r w' => r = .returned (.slice p len cap') ∧ ∃ n, w' = w.drewN n)
    (h2 : ∀ m, Calls Yba.prog 10 #[.slice p len cap', .int .i64 (g : Int), .int .i64 (a : Int), .int .i64 3] (w.drewN m) fun r w' => r = .returned (.int .i64 v) ∧ w' = w.drewN m) :
    Calls Yba.prog 6 #[.pointer (some ⟨xb, 0, none⟩), .int .i64 (a : Int), .int .i64 (k : Int), .int .i64 (g : Int)] w fun r w' => r = .returned (.int .i64 v) ∧ ∃ n, w' = w.drewN n := by
  have Hc : Hid (∀ m, Calls Yba.prog 7 #[.pointer (some ⟨xb, 0, none⟩), .int .i64 (a : Int), .int .i64 (k : Int)] (w.drewN m) fun r w' => r = .returned (.slice p len cap') ∧ ∃ n, w' = w.drewN n) := h
  have Hd : Hid (∀ m, Calls Yba.prog 10 #[.slice p len cap', .int .i64 (g : Int), .int .i64 (a : Int), .int .i64 3] (w.drewN m) fun r w' => r = .returned (.int .i64 v) ∧ w' = w.drewN m) := h2
  clear h h2
  have hb : ((g : Int) == (a : Int)) = false := beq_eq_false_iff_ne.2 (by omega)
  go_enter Yba.func6, Yba.ntmps6
  go_wp2_with fail
  go_quiet ((first
    | (go_at_call 7; exact Hc.out _)
    | (go_at_call 10; exact Calls.quiet_of_same (Hd.out _))))
  go_wp2_with fail
  go_ret
  exact ⟨rfl, _, rfl⟩

/-- entry is the clock's entry. -/
theorem entry_any (w : World) (T : Nat → Int) (c : Nat → Nat) (xb hb cl a k g : Nat) (hx : ExecMem w T c xb hb cl) (hT : ∀ i, 0 ≤ T i ∧ T i ≤ 4) (ha : a < 3) (hg : g < 3) (hc4 : c a ≤ 4) (hk1 : 1 ≤ k) :
    Calls Yba.prog 6 #[.pointer (some ⟨xb, 0, none⟩), .int .i64 (a : Int), .int .i64 (k : Int), .int .i64 (g : Int)] w fun r w' => r = .returned (.int .i64 (clkP T c a k g)) ∧ ∃ n, w' = w.drewN n := by
  by_cases hga : g = a
  · subst hga
    have e : clkP T c g k g = if k ≤ c g then (k : Int) else 0 := by
      unfold clkP
      by_cases h : k ≤ c g
      · rw [if_neg (by omega), if_pos rfl, if_pos h]
      · rw [if_pos (by omega), if_neg h]
    rw [e]
    exact entry_own w T c xb hb cl g k hx ha
  · obtain ⟨p, cap', hR, hC⟩ := erow_fix w T c xb hb cl a k hx ha hc4 hk1
    refine entry_walk w xb hb a k g p _ cap' _ hga hx.hosts hC (fun m => ?_)
    by_cases hk : k ≤ c a
    · have e : clkP T c a k g = t3 T a k g := by
        unfold clkP; rw [if_neg (by omega), if_neg hga]
      have e2 : rowC T c a k = rowL T a k := by unfold rowC; rw [if_pos hk]
      rw [e]
      exact re_any _ T a g k cap' p _ hT ha hg hga (hR.drewN m) e2
    · have e : clkP T c a k g = 0 := by
        unfold clkP; rw [if_pos (by omega)]
      have e2 : rowC T c a k = [] := by unfold rowC; rw [if_neg hk]
      rw [e, e2]
      exact re_none a g cap' p _ ha hg
end Go.Proofs.Ybulkaiey
