import Derived.Test.YbulkaigaFmtPaths
import Derived.Test.YbulkaigaFmtOrders
import Derived.Deep.CutRange
namespace Go.Proofs.YbulkaigaFmt
open Go.RowKit
theorem own_cap {w : World} {base e size n g cap : Nat} {xs : List Value} (h : w.ownsRow base e size (.slice (some ⟨g, 0, none⟩) n cap) n xs) : n ≤ cap := by
  rcases h.2 with ⟨e, e2⟩ | ⟨g', cap', cur, e, q1, q2, q3, q4, q5, q6⟩
  · cases e
  · injection e with _ _ e3
    omega
set_option maxRecDepth 100000 in
set_option maxHeartbeats 4000000 in
theorem path_one (base R : Nat) (s : St) (gA cA a0 : Nat) (t : Int) (w : World) (hn : s.nS ≤ 1000000) (hA : s.A = .slice (some ⟨gA, 0, none⟩) s.nA cA) (ha0 : a0 < s.nA) (hnA : s.nA ≤ cA) (hQ : s.nQ = 1) (hx : s.xQ = [.int .u8 t, .int .i64 a0]) (h : Bld w base R s) :
    Calls Ybaf.prog 48 #[.pointer (some ⟨R, 17, none⟩)] w fun e w' => ∃ gS cS Q', e = .returned (.slice (some ⟨gS, s.nS * 2, none⟩) 1 1) ∧
      Bld w' base R { s with S := .slice (some ⟨gS, 0, none⟩) (s.nS + 1) cS, nS := s.nS + 1, xS := s.xS ++ [.int .u8 t, .slice (some ⟨gA, a0, none⟩) (s.nA - a0) (s.nA - a0)], Q := Q', nQ := 0, xQ := [] } ∧
      Keeps w w' R s { s with S := .slice (some ⟨gS, 0, none⟩) (s.nS + 1) cS, nS := s.nS + 1, xS := s.xS ++ [.int .u8 t, .slice (some ⟨gA, a0, none⟩) (s.nA - a0) (s.nA - a0)], Q := Q', nQ := 0, xQ := [] } := by
  obtain ⟨pq, cq, hpq⟩ := own_shape h.oQ
  have hpq2 : ∃ gq, pq = some ⟨gq, 0, none⟩ := by
    rcases h.oQ.2 with ⟨e, e2⟩ | ⟨g, cap, cur, e, _⟩
    · omega
    · rw [hpq] at e
      injection e with e1
      exact ⟨g, e1⟩
  obtain ⟨gq, rfl⟩ := hpq2
  obtain ⟨ps, cs, hps⟩ := own_shape h.oS
  have hcA : w.cell? ⟨R, 17, none⟩ = some (.slice (some ⟨gA, 0, none⟩) s.nA cA) := by rw [← hA]; exact h.cA
  have hcS : w.cell? ⟨R, 18, none⟩ = some (.slice ps s.nS cs) := by rw [← hps]; exact h.cS
  have hcQ : w.cell? ⟨R, 19, none⟩ = some (.slice (some ⟨gq, 0, none⟩) 1 cq) := by rw [← hQ, ← hpq]; exact h.cQ
  have hoQ := h.oQ
  rw [hpq] at hoQ
  have hq0 : w.cell? ⟨gq, 0, none⟩ = some (.int .u8 t) := by rw [hoQ.cellAt 0 (by omega), hx]; rfl
  have hq1 : w.cell? ⟨gq, 1, none⟩ = some (.int .i64 a0) := by rw [hoQ.cellAt 1 (by omega), hx]; rfl
  have hgq : gq < w.heap.size := (h.ltQ (k := gq) (by rw [hpq]; rfl)).2
  have hRl := h.RltH
  have hle : a0 ≤ s.nA := by omega
  have hne : ¬ s.nA = a0 := by omega
  have Hd : Hid (s.A = .slice (some ⟨gA, 0, none⟩) s.nA cA ∧ s.S = .slice ps s.nS cs ∧ s.Q = .slice (some ⟨gq, 0, none⟩) s.nQ cq ∧ s.nQ = 1) := ⟨hA, hps, hpq, hQ⟩
  clear hpq hoQ hA hps hQ hx
  go_enter Ybaf.func48, Ybaf.ntmps48
  go_wp2_with fail
  refine wp_loop_rounds 2 ?_
  rw [rounds_succ]
  go_wp2_with fail
  have e17 : (w.alloc (.cells #[.int .u8 t, .int .i64 a0] 121)).cell? ⟨R, 17, none⟩ = some (.slice (some ⟨gA, 0, none⟩) s.nA cA) := by go_simp
  have e18 : (w.alloc (.cells #[.int .u8 t, .int .i64 a0] 121)).cell? ⟨R, 18, none⟩ = some (.slice ps s.nS cs) := by go_simp
  have d0 : (w.alloc (.cells #[.int .u8 t, .int .i64 a0] 121)).cell? ⟨w.heap.size, 0, none⟩ = some (.int .u8 t) := by go_simp
  have d1 : (w.alloc (.cells #[.int .u8 t, .int .i64 a0] 121)).cell? ⟨w.heap.size, 1, none⟩ = some (.int .i64 a0) := by go_simp
  have hW1 : Bld (w.alloc (.cells #[.int .u8 t, .int .i64 a0] 121)) base R s := h.grown (World.grownBy_alloc w _ none)
  have kW1 : Keeps w (w.alloc (.cells #[.int .u8 t, .int .i64 a0] 121)) R s s := Keeps.grown hRl (World.grownBy_alloc w _ none)
  obtain ⟨W, hW⟩ : ∃ W, W = w.alloc (.cells #[.int .u8 t, .int .i64 a0] 121) := ⟨_, rfl⟩
  rw [← hW] at e17 e18 d0 d1 hW1 kW1 ⊢
  obtain ⟨d, hd⟩ : ∃ d, d = w.heap.size := ⟨_, rfl⟩
  rw [← hd] at d0 d1 ⊢
  have hRl2 := hW1.RltH
  have hdl : d < W.heap.size := World.block_lt_of_cell? W _ d0
  have h2 := hW1.grown (grown_alloc_drew W (.cells #[.int .u8 t, .slice (some ⟨gA, a0, none⟩) (s.nA - a0) (s.nA - a0)] 70) none)
  have k2 : Keeps w _ R s s := kW1.trans (Keeps.grown hRl2 (grown_alloc_drew W (.cells #[.int .u8 t, .slice (some ⟨gA, a0, none⟩) (s.nA - a0) (s.nA - a0)] 70) none))
  have ho2 := h2.oS
  rw [Hd.out.2.1] at ho2
  have hbb := h2.hb
  have Hn : Hid (∀ j u, [Value.int .u8 t, .slice (some ⟨gA, a0, none⟩) (s.nA - a0) (s.nA - a0)][j]? = some u → (W.alloc (.cells #[.int .u8 t, .slice (some ⟨gA, a0, none⟩) (s.nA - a0) (s.nA - a0)] 70)).drew.cell? ((⟨W.heap.size, 0, none⟩ : Go.Addr).add j) = some u) := World.news_of_block (w := (W.alloc (.cells #[.int .u8 t, .slice (some ⟨gA, a0, none⟩) (s.nA - a0) (s.nA - a0)] 70)).drew) (heap_alloc_new _ _)
  have Hz : Hid ((W.alloc (.cells #[.int .u8 t, .slice (some ⟨gA, a0, none⟩) (s.nA - a0) (s.nA - a0)] 70)).drew.heap.size = W.heap.size + 1) := by show _ = _; simp
  have hcA2 := h2.cA
  rw [Hd.out.1] at hcA2
  have hs0 : (W.alloc (.cells #[.int .u8 t, .slice (some ⟨gA, a0, none⟩) (s.nA - a0) (s.nA - a0)] 70)).drew.cell? ⟨d, 0, none⟩ = some (.int .u8 t) := by go_simp
  have hs1 : (W.alloc (.cells #[.int .u8 t, .slice (some ⟨gA, a0, none⟩) (s.nA - a0) (s.nA - a0)] 70)).drew.cell? ⟨d, 1, none⟩ = some (.int .i64 a0) := by go_simp
  have hneS : some d ≠ (Value.slice ps s.nS cs).ownBlock := by
    intro e
    have := (h.ltS (k := d) (by rw [Hd.out.2.1]; exact e.symm)).2
    omega
  clear hcA hcS hcQ hq0 hq1 hgq hW hd
  refine wp_region_last (fun w' => w'.cell? ⟨R, 17, none⟩ = some (.slice (some ⟨gA, 0, none⟩) s.nA cA) ∧ w'.cell? ⟨R, 18, none⟩ = some (.slice ps s.nS cs) ∧ w'.cell? ⟨d, 0, none⟩ = some (.int .u8 t) ∧ w'.cell? ⟨d, 1, none⟩ = some (.int .i64 a0)) 21 (by kernel_rfl) ⟨e17, e18, d0, d1⟩ (fun hH => ?_)
  refine wpAnyL_takeD 0 (v := ?vq0) (by kernel_rfl) rfl (by kernel_rfl) (by kernel_rfl) (by kernel_rfl) (fun _ _ _ h => h) (by rfl) hH ?yq0 ?rq0
  case yq0 => (intro wz hSw; (try dsimp only at hSw); go_simp; try with_reducible rfl)
  try simp only [Act.put, List.setIfInBounds_toArray, List.set_cons_zero, List.set_cons_succ]
  refine wpAnyL_takeD 1 (v := ?vq1) (by kernel_rfl) rfl (by kernel_rfl) (by kernel_rfl) (by kernel_rfl) (fun _ _ _ h => h) (by rfl) hH ?yq1 ?rq1
  case yq1 => (intro wz hSw; (try dsimp only at hSw); go_simp; try with_reducible rfl)
  try simp only [Act.put, List.setIfInBounds_toArray, List.set_cons_zero, List.set_cons_succ]
  refine wpAnyL_takeD 2 (v := ?vq2) (by kernel_rfl) rfl (by kernel_rfl) (by kernel_rfl) (by kernel_rfl) (fun _ _ _ h => h) (by rfl) hH ?yq2 ?rq2
  case yq2 => (intro wz hSw; (try dsimp only at hSw); go_simp; try with_reducible rfl)
  try simp only [Act.put, List.setIfInBounds_toArray, List.set_cons_zero, List.set_cons_succ]
  refine wpAnyL_takeD 3 (v := ?vq3) (by kernel_rfl) rfl (by kernel_rfl) (by kernel_rfl) (by kernel_rfl) (fun _ _ _ h => h) (by rfl) hH ?yq3 ?rq3
  case yq3 => (intro wz hSw; (try dsimp only at hSw); go_simp; try with_reducible rfl)
  try simp only [Act.put, List.setIfInBounds_toArray, List.set_cons_zero, List.set_cons_succ]
  refine wpAnyL_takeD 4 (v := ?vq4) (by kernel_rfl) rfl (by kernel_rfl) (by kernel_rfl) (by kernel_rfl) (fun _ _ _ h => h) (by rfl) hH ?yq4 ?rq4
  case yq4 => (intro wz hSw; (try dsimp only at hSw); go_simp; try with_reducible rfl)
  try simp only [Act.put, List.setIfInBounds_toArray, List.set_cons_zero, List.set_cons_succ]
  refine wpAnyL_takeD 5 (v := ?vq5) (by kernel_rfl) rfl (by kernel_rfl) (by kernel_rfl) (by kernel_rfl) (fun _ _ _ h => h) (by rfl) hH ?yq5 ?rq5
  case yq5 => (intro wz hSw; (try dsimp only at hSw); go_simp; try with_reducible rfl)
  try simp only [Act.put, List.setIfInBounds_toArray, List.set_cons_zero, List.set_cons_succ]
  refine wpAnyL_takeD 6 (v := ?vq6) (by kernel_rfl) rfl (by kernel_rfl) (by kernel_rfl) (by kernel_rfl) (fun _ _ _ h => h) (by rfl) hH ?yq6 ?rq6
  case yq6 => (intro wz hSw; (try dsimp only at hSw); go_simp; try with_reducible rfl)
  try simp only [Act.put, List.setIfInBounds_toArray, List.set_cons_zero, List.set_cons_succ]
  refine wpAnyL_takeD 7 (v := ?vq7) (by kernel_rfl) rfl (by kernel_rfl) (by kernel_rfl) (by kernel_rfl) (fun _ _ _ h => h) (by rfl) hH ?yq7 ?rq7
  case yq7 => (intro wz hSw; (try dsimp only at hSw); go_simp; try with_reducible rfl)
  try simp only [Act.put, List.setIfInBounds_toArray, List.set_cons_zero, List.set_cons_succ]
  refine wpAnyL_takeD 8 (v := ?vq8) (by kernel_rfl) rfl (by kernel_rfl) (by kernel_rfl) (by kernel_rfl) (fun _ _ _ h => h) (by rfl) hH ?yq8 ?rq8
  case yq8 => (intro wz hSw; (try dsimp only at hSw); go_simp; try with_reducible rfl)
  try simp only [Act.put, List.setIfInBounds_toArray, List.set_cons_zero, List.set_cons_succ]
  refine wpAnyL_takeD 9 (v := ?vq9) (by kernel_rfl) rfl (by kernel_rfl) (by kernel_rfl) (by kernel_rfl) (fun _ _ _ h => h) (by rfl) hH ?yq9 ?rq9
  case yq9 => (intro wz hSw; (try dsimp only at hSw); go_simp; try with_reducible rfl)
  try simp only [Act.put, List.setIfInBounds_toArray, List.set_cons_zero, List.set_cons_succ]
  refine wpAnyL_takeD 10 (v := ?vq10) (by kernel_rfl) rfl (by kernel_rfl) (by kernel_rfl) (by kernel_rfl) (fun _ _ _ h => h) (by rfl) hH ?yq10 ?rq10
  case yq10 => (intro wz hSw; (try dsimp only at hSw); go_simp; try with_reducible rfl)
  try simp only [Act.put, List.setIfInBounds_toArray, List.set_cons_zero, List.set_cons_succ]
  refine wpAnyL_takeD 11 (v := ?vq11) (by kernel_rfl) rfl (by kernel_rfl) (by kernel_rfl) (by kernel_rfl) (fun _ _ _ h => h) (by rfl) hH ?yq11 ?rq11
  case yq11 => (intro wz hSw; (try dsimp only at hSw); go_simp; try with_reducible rfl)
  try simp only [Act.put, List.setIfInBounds_toArray, List.set_cons_zero, List.set_cons_succ]
  refine wpAnyL_takeD 12 (v := ?vq12) (by kernel_rfl) rfl (by kernel_rfl) (by kernel_rfl) (by kernel_rfl) (fun _ _ _ h => h) (by rfl) hH ?yq12 ?rq12
  case yq12 => (intro wz hSw; (try dsimp only at hSw); go_simp; try with_reducible rfl)
  try simp only [Act.put, List.setIfInBounds_toArray, List.set_cons_zero, List.set_cons_succ]
  refine wpAnyL_takeD 13 (v := ?vq13) (by kernel_rfl) rfl (by kernel_rfl) (by kernel_rfl) (by kernel_rfl) (fun _ _ _ h => h) (by rfl) hH ?yq13 ?rq13
  case yq13 => (intro wz hSw; (try dsimp only at hSw); go_simp; try with_reducible rfl)
  try simp only [Act.put, List.setIfInBounds_toArray, List.set_cons_zero, List.set_cons_succ]
  refine wpAnyL_takeD 14 (v := ?vq14) (by kernel_rfl) rfl (by kernel_rfl) (by kernel_rfl) (by kernel_rfl) (fun _ _ _ h => h) (by rfl) hH ?yq14 ?rq14
  case yq14 => (intro wz hSw; (try dsimp only at hSw); go_simp; try with_reducible rfl)
  try simp only [Act.put, List.setIfInBounds_toArray, List.set_cons_zero, List.set_cons_succ]
  refine wpAnyL_takeD 15 (v := ?vq15) (by kernel_rfl) rfl (by kernel_rfl) (by kernel_rfl) (by kernel_rfl) (fun _ _ _ h => h) (by rfl) hH ?yq15 ?rq15
  case yq15 => (intro wz hSw; (try dsimp only at hSw); go_simp; try with_reducible rfl)
  try simp only [Act.put, List.setIfInBounds_toArray, List.set_cons_zero, List.set_cons_succ]
  refine wpAnyL_takeD 16 (v := ?vq16) (by kernel_rfl) rfl (by kernel_rfl) (by kernel_rfl) (by kernel_rfl) (fun _ _ _ h => h) (by rfl) hH ?yq16 ?rq16
  case yq16 => (intro wz hSw; (try dsimp only at hSw); go_simp; try with_reducible rfl)
  try simp only [Act.put, List.setIfInBounds_toArray, List.set_cons_zero, List.set_cons_succ]
  refine wpAnyL_oneD 17 (by kernel_rfl) rfl (fun K hK => ?_)
  go_simp
  refine hK _ _ (fun _ => ⟨by go_simp, by go_simp, by go_simp, by go_simp⟩) (fun hH2 => ?_)
  replace hH2 := hH2 (by decide)
  clear hK K hH
  have hH := hH2
  clear hH2
  try simp only [Act.put, List.setIfInBounds_toArray, List.set_cons_zero, List.set_cons_succ]
  refine wpAnyL_oneD 18 (by kernel_rfl) rfl (fun K hK => ?_)
  refine step_append_keeps _ rfl (.tmp 54) (.tmp 67) 48 rfl base 70 Ybaf.t70 (.agg #[.int .u8 0, .slice none 0 0]) 2 32 Ybaf.underlying48 Ybaf.info70 rfl rfl rfl rfl (by omega) (.slice ps s.nS cs) s.nS s.xS (by rfl) ho2 ⟨W.heap.size, 0, none⟩ 1 1 [.int .u8 t, .slice (some ⟨gA, a0, none⟩) (s.nA - a0) (s.nA - a0)] (by rfl) rfl Hn.out (by simp [Value.oneCell']) (by omega) (by unfold maxLen; omega) (by omega) hbb (W.heap.size + 1) Hz.out ?_
  intro g cap w1 hown1 hgrow hat1 hlt1 hk1; have hf1 := (h2.front hgrow (.inr (.inl (by rw [Hd.out.2.1]))) 18).2; have hc1 := (h2.front hgrow (.inr (.inl (by rw [Hd.out.2.1]))) 18).1.trans h2.cS; have hc1' := hc1; rw [Hd.out.2.1] at hc1'; have hc7 := (h2.front hgrow (.inr (.inl (by rw [Hd.out.2.1]))) 17).1.trans hcA2; have hd0 := hgrow.cell hs0 hneS; have hd1 := hgrow.cell hs1 hneS
  refine hK _ _ (fun _ => ⟨hc7, hc1', hd0, hd1⟩) (fun hH2 => ?_)
  replace hH2 := hH2 (by decide)
  clear hK K hH
  have hH := hH2
  clear hH2
  try simp only [Act.put, List.setIfInBounds_toArray, List.set_cons_zero, List.set_cons_succ]
  refine wpAnyL_oneD 19 (by kernel_rfl) rfl (fun K hK => ?_)
  go_simp
  refine hK _ _ (fun _ => hH) (fun hH2 => ?_)
  clear hK K
  try simp only [Act.put, List.setIfInBounds_toArray, List.set_cons_zero, List.set_cons_succ]
  refine wpAnyL_takeD 20 (v := ?vq20) (by kernel_rfl) rfl (by kernel_rfl) (by kernel_rfl) (by kernel_rfl) (fun _ _ _ h => h) (by rfl) hH ?yq20 ?rq20
  case yq20 => (intro wz hSw; (try dsimp only at hSw); go_simp; try with_reducible rfl)
  try simp only [Act.put, List.setIfInBounds_toArray, List.set_cons_zero, List.set_cons_succ]
  refine wpAnyL_oneD 21 (by kernel_rfl) rfl (fun K hK => ?_)
  go_simp
  refine hK _ _ (fun hno => absurd rfl hno) (fun _ => ?_)
  clear hK K
  try simp only [Act.put, List.setIfInBounds_toArray, List.set_cons_zero, List.set_cons_succ]
  refine wpAnyL_done (by kernel_rfl) ?_ _
  obtain ⟨p1, p2⟩ := h2.pushS (by rw [Hd.out.2.1]; exact hgrow) hown1 (by rw [Hd.out.2.1]; simpa using hat1) (by rw [Hd.out.2.1]; exact hk1)
  have p3 := k2.trans p2
  obtain ⟨wc, hwc⟩ : ∃ wc, wc = w1.setCell ⟨R, 18, none⟩ (.slice (some ⟨g, 0, none⟩) (s.nS + 1) cap) := ⟨_, rfl⟩
  rw [← hwc] at p1 p3 ⊢
  have f17 := p1.cA
  have f18 := p1.cS
  have f19 := p1.cQ
  have hfr := p1.frozen 19
  simp only [Hd.out.1, Hd.out.2.2.1, Hd.out.2.2.2] at f17 f18 f19
  clear p2 hwc hgrow hown1 hat1 hk1 hf1 hc1 hc1' hc7 hd0 hd1 hH hH2 h2 k2 ho2 hbb Hn Hz hcA2 hs0 hs1 hneS e17 e18 d0 d1 hW1 kW1 hlt1
  go_wp2_with fail
  rw [rounds_succ]
  go_wp2_with fail
  obtain ⟨q1, q2⟩ := p1.cutQ (g := gq) (cap := cq) Hd.out.2.2.1
  have q3 := p3.trans q2
  obtain ⟨wd, hwd⟩ : ∃ wd, wd = wc.setCell ⟨R, 19, none⟩ (.slice (some ⟨gq, 0, none⟩) 0 cq) := ⟨_, rfl⟩
  rw [← hwd] at q1 q3 ⊢
  have f18' : wd.cell? ⟨R, 18, none⟩ = some (.slice (some ⟨g, 0, none⟩) (s.nS + 1) cap) := q1.cS
  have hcap : s.nS + 1 ≤ cap := own_cap q1.oS
  have hsub : s.nS + 1 - s.nS = 1 := by omega
  have hne2 : ¬ s.nS + 1 = s.nS := by omega
  clear hwd q2 f17 f18 f19 hfr p1 p3
  go_quiet (fail)
  go_wp2_with fail
  go_ret
  exact ⟨g, rfl, cap, _, q1.grown (grown_drawn wd none _), q3.trans (Keeps.grown q1.RltH (grown_drawn wd none _))⟩
end Go.Proofs.YbulkaigaFmt
