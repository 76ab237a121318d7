import Derived.Test.YbulkaigaFmtUnite
import Derived.Test.YbulkaigaFmtOrders
namespace Go.Proofs.YbulkaigaFmt
open Go.RowKit Go.Extern.Stop Go.Stop Go.Extern

set_option maxRecDepth 100000 in
set_option maxHeartbeats 8000000 in
theorem rib_head1 (F : Interp) (a4 a6 : Go.Addr) (base bV R : Nat) (s : St) (V : Value) (nR : Nat) (xR : List Value) (g n c gp op np cp m k : Nat) (P : Nat → Int) (es : List Ent) (l : List Int) (seq : Int) (ap : Bool) (nm : ByteArray) (w : World)
    (hF : F.answers w.tape) (hM : Marks w a4 a6) (hRib : Rib w base bV R s V nR xR) (hQ : s.nQ = 0) (hxQ : s.xQ = []) (hnA : s.nA ≤ 500000) (hnS : s.nS ≤ 500000) (hnR : nR ≤ 500000) (hes : es.length ≤ 300)
    (hm : m ≤ pMax 1) (hk : k = (m + 7) / 8) (hl : l.length = k) (hr : ∀ x ∈ l, 0 ≤ x ∧ x ≤ 255)
    (hg : g < w.heap.size) (hgo : Out R s g) (hgV : V.ownBlock ≠ some g) (hL : Lies w g 0 (be32 seq ++ (([0, 1, 1] : List Int) ++ ([(m : Int)] ++ (l ++ (be16 (es.length : Int) ++ encAll ap es)))))) (hn : n ≤ 7 + (1 + k + (2 + (encAll ap es).length))) (hnc : 7 + (1 + k + (2 + (encAll ap es).length)) ≤ c)
    (h21 : w.cell? ⟨R, 21, none⟩ = some (.slice (some ⟨gp, op, none⟩) np cp)) (hgp : gp < w.heap.size) (hgpo : Out R s gp) (hgpV : V.ownBlock ≠ some gp) (hP : ∀ i, i < np → w.cell? ⟨gp, op + i, none⟩ = some (.int .u32 (P i)))
    (he : ∀ e ∈ es, e.peer < np ∧ e.peer ≤ 65535 ∧ e.asns.length ≤ 63 ∧ ∀ x ∈ e.asns, 0 ≤ x ∧ x ≤ 4294967295) :
    Calls Ybaf.prog 11 #[.pointer (some ⟨R, 0, none⟩), .slice (some ⟨g, 0, none⟩) n c, .agg #[.string nm, .int .u16 0, .int .u8 0, .bool ap]] w fun e w' => ∃ s' V', Held w w' R s V s' V' ∧
      ((n < 7 + (1 + k + (2 + (encAll ap es).length)) ∧ ∃ j, e = .returned (.iface 93 (.pointer (some ⟨j, 0, none⟩)))) ∨
       (n = 7 + (1 + k + (2 + (encAll ap es).length)) ∧ e = .returned .nilIface ∧ ∃ xs, Rib w' base bV R s' V' (nR + es.length) (xR ++ xs) ∧ Done w' R s' V' [.int .u64 (pHi 1 (padded l) m), .int .u64 (pLo 1 (padded l) m), .pointer (some (pMark a4 a6 1)), .int .u8 ((m : Int) + 1)] P es xs)) := by
  have hRl := hRib.bld.RltH
  obtain ⟨full, hfull⟩ : ∃ full, full = 7 + (1 + k + (2 + (encAll ap es).length)) := ⟨_, rfl⟩
  have hfl : full ≤ 100000 := by
    have h1 := encAll_length_le ap es (fun e h => (he e h).2.2.1)
    have h2 : m ≤ 128 := Nat.le_trans hm (by simp [pMax])
    omega
  rw [← hfull] at hn hnc ⊢
  have Hfull : Hid (full = 7 + (1 + k + (2 + (encAll ap es).length))) := hfull
  have gB := World.grownBy_alloc w (.cells #[.string nm, .int .u16 0, .int .u8 0, .bool ap] 34) none
  have Hk : Hid (k = (m + 7) / 8 ∧ l.length = k) := ⟨hk, hl⟩
  clear hfull hk hl
  by_cases hn4 : n < 4
  · have m1 : (n : Int) < 4 := by omega
    go_enter Ybaf.func11, Ybaf.ntmps11
    go_wp2_with (go_at_call 20; go_must (refine (errorf_b1 F n _ _ (by exact hF) (by rw [World.cell?_alloc_at (hn := by simp)]; rfl)).mono ?_; rintro e w1 ⟨rfl, g1⟩))
    go_ret
    exact ⟨s, V, Held.grown hRl (grown_then gB (grown_then (World.grownBy_alloc _ _ none) g1)), .inl ⟨by have := Hfull.out; omega, _, rfl⟩⟩
  · have m1 : ¬ (n : Int) < 4 := by omega
    have m2 : (4 : Int) ≤ (n : Int) := by omega
    have hc4 : ¬ c = 4 := by have := Hfull.out; omega
    by_cases hn7 : n < 7
    · have m3 : ((n - 4 : Nat) : Int) < 3 := by omega
      have m4 : n - 4 < 3 := by omega
      go_enter Ybaf.func11, Ybaf.ntmps11
      go_wp2_with fail
      go_quiet (fail)
      go_wp2_with (go_at_call 23; go_must (refine (new_any _ _).mono ?_; rintro e w1 ⟨rfl, g1⟩))
      go_ret
      exact ⟨s, V, Held.grown hRl (grown_then gB (grown_then (grown_drawn _ none nq) g1)), .inl ⟨by have := Hfull.out; omega, _, rfl⟩⟩
    · have m3 : ¬ ((n - 4 : Nat) : Int) < 3 := by omega
      have m3' : (3 : Int) ≤ ((n - 4 : Nat) : Int) := by omega
      have m4 : ¬ n - 4 < 3 := by omega
      have m5 : 2 < n - 4 := by omega
      have m6 : (2 : Int) < ((n - 4 : Nat) : Int) := by omega
      have hc7 : ¬ c - 4 = 3 := by have := Hfull.out; omega
      have b4 : w.cell? ⟨g, 4, none⟩ = some (.int .u8 0) := hL 4 _ rfl
      have b5 : w.cell? ⟨g, 4 + 1, none⟩ = some (.int .u8 1) := hL 5 _ rfl
      have b6 : w.cell? ⟨g, 6, none⟩ = some (.int .u8 1) := hL 6 _ rfl
      go_enter Ybaf.func11, Ybaf.ntmps11
      go_wp2_with fail
      go_quiet (fail)
      go_wp2_with fail
      have gQ := grown_then gB (grown_drawn _ none nq)
      obtain ⟨W0, hW0⟩ : ∃ W0, W0 = (w.alloc (.cells #[.string nm, .int .u16 0, .int .u8 0, .bool ap] 34)).drewN nq := ⟨_, rfl⟩
      have zQ : W0.heap[w.heap.size]? = some (.cells #[.string nm, .int .u16 0, .int .u8 0, .bool ap] 34 (0, 0)) := by rw [hW0]; exact row_grown (heap_alloc_new w _) (grown_drawn _ none nq)
      rw [← hW0] at gQ ⊢
      have q4 := gQ.cell b4 (by simp)
      have q5 := gQ.cell b5 (by simp)
      have q6 := gQ.cell b6 (by simp)
      have hgQ : g < W0.heap.size := Nat.lt_of_lt_of_le hg gQ.size
      clear hW0 b4 b5 b6
      refine wp_region_last (fun w' => w'.cell? ⟨g, 6, none⟩ = some (.int .u8 1)) 7 (by kernel_rfl) q6 (fun hH => ?_)
      refine wpAnyL_takeD 0 (v := ?vq0) (by kernel_rfl) rfl (by kernel_rfl) (by kernel_rfl) (by kernel_rfl) (fun _ _ _ h => h) (by rfl) hH ?yq0 ?rq0
      case yq0 => (intro wz hSw; (try dsimp only at hSw); go_simp; try with_reducible rfl)
      try simp only [Act.put, List.setIfInBounds_toArray, List.set_cons_zero, List.set_cons_succ]
      refine wpAnyL_takeD 1 (v := ?vq1) (by kernel_rfl) rfl (by kernel_rfl) (by kernel_rfl) (by kernel_rfl) (fun _ _ _ h => h) (by rfl) hH ?yq1 ?rq1
      case yq1 => (intro wz hSw; (try dsimp only at hSw); go_simp; try with_reducible rfl)
      try simp only [Act.put, List.setIfInBounds_toArray, List.set_cons_zero, List.set_cons_succ]
      refine wpAnyL_takeD 3 (v := ?vq3) (by kernel_rfl) rfl (by kernel_rfl) (by kernel_rfl) (by kernel_rfl) (fun _ _ _ h => h) (by rfl) hH ?yq3 ?rq3
      case yq3 => (intro wz hSw; (try dsimp only at hSw); go_simp; try with_reducible rfl)
      try simp only [Act.put, List.setIfInBounds_toArray, List.set_cons_zero, List.set_cons_succ]
      refine wpAnyL_takeD 4 (v := ?vq4) (by kernel_rfl) rfl (by kernel_rfl) (by kernel_rfl) (by kernel_rfl) (fun _ _ _ h => h) (by rfl) hH ?yq4 ?rq4
      case yq4 => (intro wz hSw; (try dsimp only at hSw); go_simp; try with_reducible rfl)
      try simp only [Act.put, List.setIfInBounds_toArray, List.set_cons_zero, List.set_cons_succ]
      refine wpAnyL_takeD 5 (v := ?vq5) (by kernel_rfl) rfl (by kernel_rfl) (by kernel_rfl) (by kernel_rfl) (fun _ _ _ h => h) (by rfl) hH ?yq5 ?rq5
      case yq5 => (intro wz hSw; (try dsimp only at hSw); go_simp; try with_reducible rfl)
      try simp only [Act.put, List.setIfInBounds_toArray, List.set_cons_zero, List.set_cons_succ]
      refine wpAnyL_oneD 2 (by kernel_rfl) rfl (fun K hK => ?_)
      go_simp
      refine (uint16_any g 4 (n - 4) (c - 4) 0 1 W0.drew (by omega) hgQ (by omega) (by omega) (by omega) (by omega) q4 q5).mono ?_
      rintro e2 w2 ⟨rfl, k3, rfl⟩
      rw [show (0 : Int) * 256 + 1 = 1 from rfl]
      have hS : ((W0.drew.alloc (.cells #[] 80)).drewN k3).cell? ⟨g, 6, none⟩ = some (.int .u8 1) := (grown_then (World.grownBy_alloc W0.drew _ none) (grown_drawn _ none k3)).cell (show W0.drew.cell? _ = _ from q6) (by simp)
      refine hK _ _ (fun _ => hS) (fun _ => ?_)
      clear hK K
      try simp only [Act.put, List.setIfInBounds_toArray, List.set_cons_zero, List.set_cons_succ]
      refine wpAnyL_oneD 6 (by kernel_rfl) rfl (fun K hK => ?_)
      go_simp
      refine hK _ _ (fun _ => hS) (fun _ => ?_)
      clear hK K
      try simp only [Act.put, List.setIfInBounds_toArray, List.set_cons_zero, List.set_cons_succ]
      refine wpAnyL_oneD 7 (by kernel_rfl) rfl (fun K hK => ?_)
      go_simp
      refine hK _ _ (fun hno => absurd rfl hno) (fun _ => ?_)
      clear hK K
      try simp only [Act.put, List.setIfInBounds_toArray, List.set_cons_zero, List.set_cons_succ]
      refine wpAnyL_done (by kernel_rfl) ?_ _
      go_wp2_with fail
      rw [show n - 4 - 3 = n - 7 by omega, show c - 4 - 3 = c - 7 by omega]
      clear q4 q5 q6 hS hH
      have gW : w.grownBy ((W0.alloc (.cells #[] 80)).drewN (1 + k3)) none := grown_then gQ (grown_then (World.grownBy_alloc W0 _ none) (grown_drawn _ none _))
      have zB : ((W0.alloc (.cells #[] 80)).drewN (1 + k3)).heap[w.heap.size]? = some (.cells #[.string nm, .int .u16 0, .int .u8 0, .bool ap] 34 (0, 0)) := row_grown zQ (grown_then (World.grownBy_alloc W0 _ none) (grown_drawn _ none _))
      obtain ⟨W1, hW1⟩ : ∃ W1, W1 = ((W0.alloc (.cells #[] 80)).drewN (1 + k3)) := ⟨_, rfl⟩
      rw [← hW1] at gW zB ⊢
      have hL2 : Lies w g 7 ([(m : Int)] ++ (l ++ (be16 (es.length : Int) ++ encAll ap es))) := hL.right.right
      have hF1 : F.answers W1.tape := by rw [gW.tape]; exact hF
      have hO : 7 ≤ n := by omega
      clear hW1
      refine (readPrefix_any F a4 a6 g 7 (n - 7) (c - 7) m k 1 l (be16 (es.length : Int) ++ encAll ap es) W1 hF1 (hM.grown gW) (by simp) (Nat.lt_of_lt_of_le hg gW.size) (hL2.block (gW.block g hg (by simp))) hm Hk.out.1 Hk.out.2 hr (by omega) (by have := Hfull.out; omega)).mono ?_
      rintro e w1 ⟨g1, ⟨hlt, j, rfl⟩ | ⟨hle, rfl⟩⟩
      · unfold zeroPfx
        go_wp2_with fail
        go_ret
        exact ⟨s, V, Held.grown hRl (grown_then gW (grown_then g1 (World.grownBy_alloc _ _ none))), .inl ⟨by have := Hfull.out; omega, _, rfl⟩⟩
      · unfold pfxVal
        obtain ⟨vh, hvh⟩ : ∃ x, x = pHi 1 (padded l) m := ⟨_, rfl⟩
        obtain ⟨vl, hvl⟩ : ∃ x, x = pLo 1 (padded l) m := ⟨_, rfl⟩
        obtain ⟨va, hva⟩ : ∃ x, x = pMark a4 a6 1 := ⟨_, rfl⟩
        rw [← hvh, ← hvl, ← hva]
        have Hv : Hid (vh = pHi 1 (padded l) m ∧ vl = pLo 1 (padded l) m ∧ va = pMark a4 a6 1) := ⟨hvh, hvl, hva⟩
        clear hvh hvl hva
        obtain ⟨k0, k1, k2, k3, _⟩ := row4 (row_grown zB g1)
        have hbl := World.block_lt_of_cell? w1 _ k0
        replace hbl : w.heap.size < w1.heap.size := hbl
        have gX : w.grownBy (w1.alloc (.cells #[.int .u64 vh, .int .u64 vl, .pointer (some va), .int .u8 ((m : Int) + 1)] 47)) none := grown_then gW (grown_then g1 (World.grownBy_alloc _ _ none))
        have hE := entries_any ap F base bV R s V nR xR g (7 + (1 + k)) (n - 7 - (1 + k)) (c - 7 - (1 + k)) gp op np cp P es vh vl ((m : Int) + 1) (some va) (w1.alloc (.cells #[.int .u64 vh, .int .u64 vl, .pointer (some va), .int .u8 ((m : Int) + 1)] 47))
          (by rw [gX.tape]; exact hF) (hRib.grown gX) hQ hxQ hnA hnS hnR hes (Nat.lt_of_lt_of_le hg gX.size) hgo hgV
          (by have h3 := (hL2.right).right; rw [show 7 + [(m : Int)].length + l.length = 7 + (1 + k) by simp [Hk.out.2]; omega] at h3; exact h3.block (gX.block g hg (by simp))) (by have := Hfull.out; omega) (by have := Hfull.out; omega) (gX.cell h21 (by simp)) (Nat.lt_of_lt_of_le hgp gX.size) hgpo hgpV
          (fun i hi => (World.cell?_of_block (a := ⟨gp, op + i, none⟩) (gX.block gp hgp (by simp))).trans (hP i hi)) he
        have HE : Hid _ := hE
        clear hE
        go_wp2_with fail
        refine Calls.mono HE.out ?_
        rintro e w2 ⟨s', V', hH, ⟨hlt, j, rfl⟩ | ⟨hfu, rfl, xs, hR, hD⟩⟩
        · go_wp2_with fail
          go_ret
          exact ⟨s', V', (Held.grown hRl gX).trans hH, .inl ⟨by have := Hfull.out; omega, _, rfl⟩⟩
        · have HRD : Hid _ := And.intro hR hD
          have Hfu : Hid (n = full) := by show n = full; have := Hfull.out; omega
          clear hR hD hfu
          go_wp2_with fail
          go_ret
          exact ⟨s', V', (Held.grown hRl gX).trans hH, .inr ⟨Hfu.out, rfl, xs, HRD.out.1, by have := HRD.out.2; rwa [Hv.out.1, Hv.out.2.1, Hv.out.2.2] at this⟩⟩

set_option maxRecDepth 100000 in
set_option maxHeartbeats 8000000 in
theorem rib_head2 (F : Interp) (a4 a6 : Go.Addr) (base bV R : Nat) (s : St) (V : Value) (nR : Nat) (xR : List Value) (g n c gp op np cp m k : Nat) (P : Nat → Int) (es : List Ent) (l : List Int) (seq : Int) (ap : Bool) (nm : ByteArray) (w : World)
    (hF : F.answers w.tape) (hM : Marks w a4 a6) (hRib : Rib w base bV R s V nR xR) (hQ : s.nQ = 0) (hxQ : s.xQ = []) (hnA : s.nA ≤ 500000) (hnS : s.nS ≤ 500000) (hnR : nR ≤ 500000) (hes : es.length ≤ 300)
    (hm : m ≤ pMax 2) (hk : k = (m + 7) / 8) (hl : l.length = k) (hr : ∀ x ∈ l, 0 ≤ x ∧ x ≤ 255)
    (hg : g < w.heap.size) (hgo : Out R s g) (hgV : V.ownBlock ≠ some g) (hL : Lies w g 0 (be32 seq ++ (([0, 2, 1] : List Int) ++ ([(m : Int)] ++ (l ++ (be16 (es.length : Int) ++ encAll ap es)))))) (hn : n ≤ 7 + (1 + k + (2 + (encAll ap es).length))) (hnc : 7 + (1 + k + (2 + (encAll ap es).length)) ≤ c)
    (h21 : w.cell? ⟨R, 21, none⟩ = some (.slice (some ⟨gp, op, none⟩) np cp)) (hgp : gp < w.heap.size) (hgpo : Out R s gp) (hgpV : V.ownBlock ≠ some gp) (hP : ∀ i, i < np → w.cell? ⟨gp, op + i, none⟩ = some (.int .u32 (P i)))
    (he : ∀ e ∈ es, e.peer < np ∧ e.peer ≤ 65535 ∧ e.asns.length ≤ 63 ∧ ∀ x ∈ e.asns, 0 ≤ x ∧ x ≤ 4294967295) :
    Calls Ybaf.prog 11 #[.pointer (some ⟨R, 0, none⟩), .slice (some ⟨g, 0, none⟩) n c, .agg #[.string nm, .int .u16 0, .int .u8 0, .bool ap]] w fun e w' => ∃ s' V', Held w w' R s V s' V' ∧
      ((n < 7 + (1 + k + (2 + (encAll ap es).length)) ∧ ∃ j, e = .returned (.iface 93 (.pointer (some ⟨j, 0, none⟩)))) ∨
       (n = 7 + (1 + k + (2 + (encAll ap es).length)) ∧ e = .returned .nilIface ∧ ∃ xs, Rib w' base bV R s' V' (nR + es.length) (xR ++ xs) ∧ Done w' R s' V' [.int .u64 (pHi 2 (padded l) m), .int .u64 (pLo 2 (padded l) m), .pointer (some (pMark a4 a6 2)), .int .u8 ((m : Int) + 1)] P es xs)) := by
  have hRl := hRib.bld.RltH
  obtain ⟨full, hfull⟩ : ∃ full, full = 7 + (1 + k + (2 + (encAll ap es).length)) := ⟨_, rfl⟩
  have hfl : full ≤ 100000 := by
    have h1 := encAll_length_le ap es (fun e h => (he e h).2.2.1)
    have h2 : m ≤ 128 := Nat.le_trans hm (by simp [pMax])
    omega
  rw [← hfull] at hn hnc ⊢
  have Hfull : Hid (full = 7 + (1 + k + (2 + (encAll ap es).length))) := hfull
  have gB := World.grownBy_alloc w (.cells #[.string nm, .int .u16 0, .int .u8 0, .bool ap] 34) none
  have Hk : Hid (k = (m + 7) / 8 ∧ l.length = k) := ⟨hk, hl⟩
  clear hfull hk hl
  by_cases hn4 : n < 4
  · have m1 : (n : Int) < 4 := by omega
    go_enter Ybaf.func11, Ybaf.ntmps11
    go_wp2_with (go_at_call 20; go_must (refine (errorf_b1 F n _ _ (by exact hF) (by rw [World.cell?_alloc_at (hn := by simp)]; rfl)).mono ?_; rintro e w1 ⟨rfl, g1⟩))
    go_ret
    exact ⟨s, V, Held.grown hRl (grown_then gB (grown_then (World.grownBy_alloc _ _ none) g1)), .inl ⟨by have := Hfull.out; omega, _, rfl⟩⟩
  · have m1 : ¬ (n : Int) < 4 := by omega
    have m2 : (4 : Int) ≤ (n : Int) := by omega
    have hc4 : ¬ c = 4 := by have := Hfull.out; omega
    by_cases hn7 : n < 7
    · have m3 : ((n - 4 : Nat) : Int) < 3 := by omega
      have m4 : n - 4 < 3 := by omega
      go_enter Ybaf.func11, Ybaf.ntmps11
      go_wp2_with fail
      go_quiet (fail)
      go_wp2_with (go_at_call 23; go_must (refine (new_any _ _).mono ?_; rintro e w1 ⟨rfl, g1⟩))
      go_ret
      exact ⟨s, V, Held.grown hRl (grown_then gB (grown_then (grown_drawn _ none nq) g1)), .inl ⟨by have := Hfull.out; omega, _, rfl⟩⟩
    · have m3 : ¬ ((n - 4 : Nat) : Int) < 3 := by omega
      have m3' : (3 : Int) ≤ ((n - 4 : Nat) : Int) := by omega
      have m4 : ¬ n - 4 < 3 := by omega
      have m5 : 2 < n - 4 := by omega
      have m6 : (2 : Int) < ((n - 4 : Nat) : Int) := by omega
      have hc7 : ¬ c - 4 = 3 := by have := Hfull.out; omega
      have b4 : w.cell? ⟨g, 4, none⟩ = some (.int .u8 0) := hL 4 _ rfl
      have b5 : w.cell? ⟨g, 4 + 1, none⟩ = some (.int .u8 2) := hL 5 _ rfl
      have b6 : w.cell? ⟨g, 6, none⟩ = some (.int .u8 1) := hL 6 _ rfl
      go_enter Ybaf.func11, Ybaf.ntmps11
      go_wp2_with fail
      go_quiet (fail)
      go_wp2_with fail
      have gQ := grown_then gB (grown_drawn _ none nq)
      obtain ⟨W0, hW0⟩ : ∃ W0, W0 = (w.alloc (.cells #[.string nm, .int .u16 0, .int .u8 0, .bool ap] 34)).drewN nq := ⟨_, rfl⟩
      have zQ : W0.heap[w.heap.size]? = some (.cells #[.string nm, .int .u16 0, .int .u8 0, .bool ap] 34 (0, 0)) := by rw [hW0]; exact row_grown (heap_alloc_new w _) (grown_drawn _ none nq)
      rw [← hW0] at gQ ⊢
      have q4 := gQ.cell b4 (by simp)
      have q5 := gQ.cell b5 (by simp)
      have q6 := gQ.cell b6 (by simp)
      have hgQ : g < W0.heap.size := Nat.lt_of_lt_of_le hg gQ.size
      clear hW0 b4 b5 b6
      refine wp_region_last (fun w' => w'.cell? ⟨g, 6, none⟩ = some (.int .u8 1)) 7 (by kernel_rfl) q6 (fun hH => ?_)
      refine wpAnyL_takeD 0 (v := ?vq0) (by kernel_rfl) rfl (by kernel_rfl) (by kernel_rfl) (by kernel_rfl) (fun _ _ _ h => h) (by rfl) hH ?yq0 ?rq0
      case yq0 => (intro wz hSw; (try dsimp only at hSw); go_simp; try with_reducible rfl)
      try simp only [Act.put, List.setIfInBounds_toArray, List.set_cons_zero, List.set_cons_succ]
      refine wpAnyL_takeD 1 (v := ?vq1) (by kernel_rfl) rfl (by kernel_rfl) (by kernel_rfl) (by kernel_rfl) (fun _ _ _ h => h) (by rfl) hH ?yq1 ?rq1
      case yq1 => (intro wz hSw; (try dsimp only at hSw); go_simp; try with_reducible rfl)
      try simp only [Act.put, List.setIfInBounds_toArray, List.set_cons_zero, List.set_cons_succ]
      refine wpAnyL_takeD 3 (v := ?vq3) (by kernel_rfl) rfl (by kernel_rfl) (by kernel_rfl) (by kernel_rfl) (fun _ _ _ h => h) (by rfl) hH ?yq3 ?rq3
      case yq3 => (intro wz hSw; (try dsimp only at hSw); go_simp; try with_reducible rfl)
      try simp only [Act.put, List.setIfInBounds_toArray, List.set_cons_zero, List.set_cons_succ]
      refine wpAnyL_takeD 4 (v := ?vq4) (by kernel_rfl) rfl (by kernel_rfl) (by kernel_rfl) (by kernel_rfl) (fun _ _ _ h => h) (by rfl) hH ?yq4 ?rq4
      case yq4 => (intro wz hSw; (try dsimp only at hSw); go_simp; try with_reducible rfl)
      try simp only [Act.put, List.setIfInBounds_toArray, List.set_cons_zero, List.set_cons_succ]
      refine wpAnyL_takeD 5 (v := ?vq5) (by kernel_rfl) rfl (by kernel_rfl) (by kernel_rfl) (by kernel_rfl) (fun _ _ _ h => h) (by rfl) hH ?yq5 ?rq5
      case yq5 => (intro wz hSw; (try dsimp only at hSw); go_simp; try with_reducible rfl)
      try simp only [Act.put, List.setIfInBounds_toArray, List.set_cons_zero, List.set_cons_succ]
      refine wpAnyL_oneD 2 (by kernel_rfl) rfl (fun K hK => ?_)
      go_simp
      refine (uint16_any g 4 (n - 4) (c - 4) 0 2 W0.drew (by omega) hgQ (by omega) (by omega) (by omega) (by omega) q4 q5).mono ?_
      rintro e2 w2 ⟨rfl, k3, rfl⟩
      rw [show (0 : Int) * 256 + 2 = 2 from rfl]
      have hS : ((W0.drew.alloc (.cells #[] 80)).drewN k3).cell? ⟨g, 6, none⟩ = some (.int .u8 1) := (grown_then (World.grownBy_alloc W0.drew _ none) (grown_drawn _ none k3)).cell (show W0.drew.cell? _ = _ from q6) (by simp)
      refine hK _ _ (fun _ => hS) (fun _ => ?_)
      clear hK K
      try simp only [Act.put, List.setIfInBounds_toArray, List.set_cons_zero, List.set_cons_succ]
      refine wpAnyL_oneD 6 (by kernel_rfl) rfl (fun K hK => ?_)
      go_simp
      refine hK _ _ (fun _ => hS) (fun _ => ?_)
      clear hK K
      try simp only [Act.put, List.setIfInBounds_toArray, List.set_cons_zero, List.set_cons_succ]
      refine wpAnyL_oneD 7 (by kernel_rfl) rfl (fun K hK => ?_)
      go_simp
      refine hK _ _ (fun hno => absurd rfl hno) (fun _ => ?_)
      clear hK K
      try simp only [Act.put, List.setIfInBounds_toArray, List.set_cons_zero, List.set_cons_succ]
      refine wpAnyL_done (by kernel_rfl) ?_ _
      go_wp2_with fail
      rw [show n - 4 - 3 = n - 7 by omega, show c - 4 - 3 = c - 7 by omega]
      clear q4 q5 q6 hS hH
      have gW : w.grownBy ((W0.alloc (.cells #[] 80)).drewN (1 + k3)) none := grown_then gQ (grown_then (World.grownBy_alloc W0 _ none) (grown_drawn _ none _))
      have zB : ((W0.alloc (.cells #[] 80)).drewN (1 + k3)).heap[w.heap.size]? = some (.cells #[.string nm, .int .u16 0, .int .u8 0, .bool ap] 34 (0, 0)) := row_grown zQ (grown_then (World.grownBy_alloc W0 _ none) (grown_drawn _ none _))
      obtain ⟨W1, hW1⟩ : ∃ W1, W1 = ((W0.alloc (.cells #[] 80)).drewN (1 + k3)) := ⟨_, rfl⟩
      rw [← hW1] at gW zB ⊢
      have hL2 : Lies w g 7 ([(m : Int)] ++ (l ++ (be16 (es.length : Int) ++ encAll ap es))) := hL.right.right
      have hF1 : F.answers W1.tape := by rw [gW.tape]; exact hF
      have hO : 7 ≤ n := by omega
      clear hW1
      refine (readPrefix_any F a4 a6 g 7 (n - 7) (c - 7) m k 2 l (be16 (es.length : Int) ++ encAll ap es) W1 hF1 (hM.grown gW) (by simp) (Nat.lt_of_lt_of_le hg gW.size) (hL2.block (gW.block g hg (by simp))) hm Hk.out.1 Hk.out.2 hr (by omega) (by have := Hfull.out; omega)).mono ?_
      rintro e w1 ⟨g1, ⟨hlt, j, rfl⟩ | ⟨hle, rfl⟩⟩
      · unfold zeroPfx
        go_wp2_with fail
        go_ret
        exact ⟨s, V, Held.grown hRl (grown_then gW (grown_then g1 (World.grownBy_alloc _ _ none))), .inl ⟨by have := Hfull.out; omega, _, rfl⟩⟩
      · unfold pfxVal
        obtain ⟨vh, hvh⟩ : ∃ x, x = pHi 2 (padded l) m := ⟨_, rfl⟩
        obtain ⟨vl, hvl⟩ : ∃ x, x = pLo 2 (padded l) m := ⟨_, rfl⟩
        obtain ⟨va, hva⟩ : ∃ x, x = pMark a4 a6 2 := ⟨_, rfl⟩
        rw [← hvh, ← hvl, ← hva]
        have Hv : Hid (vh = pHi 2 (padded l) m ∧ vl = pLo 2 (padded l) m ∧ va = pMark a4 a6 2) := ⟨hvh, hvl, hva⟩
        clear hvh hvl hva
        obtain ⟨k0, k1, k2, k3, _⟩ := row4 (row_grown zB g1)
        have hbl := World.block_lt_of_cell? w1 _ k0
        replace hbl : w.heap.size < w1.heap.size := hbl
        have gX : w.grownBy (w1.alloc (.cells #[.int .u64 vh, .int .u64 vl, .pointer (some va), .int .u8 ((m : Int) + 1)] 47)) none := grown_then gW (grown_then g1 (World.grownBy_alloc _ _ none))
        have hE := entries_any ap F base bV R s V nR xR g (7 + (1 + k)) (n - 7 - (1 + k)) (c - 7 - (1 + k)) gp op np cp P es vh vl ((m : Int) + 1) (some va) (w1.alloc (.cells #[.int .u64 vh, .int .u64 vl, .pointer (some va), .int .u8 ((m : Int) + 1)] 47))
          (by rw [gX.tape]; exact hF) (hRib.grown gX) hQ hxQ hnA hnS hnR hes (Nat.lt_of_lt_of_le hg gX.size) hgo hgV
          (by have h3 := (hL2.right).right; rw [show 7 + [(m : Int)].length + l.length = 7 + (1 + k) by simp [Hk.out.2]; omega] at h3; exact h3.block (gX.block g hg (by simp))) (by have := Hfull.out; omega) (by have := Hfull.out; omega) (gX.cell h21 (by simp)) (Nat.lt_of_lt_of_le hgp gX.size) hgpo hgpV
          (fun i hi => (World.cell?_of_block (a := ⟨gp, op + i, none⟩) (gX.block gp hgp (by simp))).trans (hP i hi)) he
        have HE : Hid _ := hE
        clear hE
        go_wp2_with fail
        refine Calls.mono HE.out ?_
        rintro e w2 ⟨s', V', hH, ⟨hlt, j, rfl⟩ | ⟨hfu, rfl, xs, hR, hD⟩⟩
        · go_wp2_with fail
          go_ret
          exact ⟨s', V', (Held.grown hRl gX).trans hH, .inl ⟨by have := Hfull.out; omega, _, rfl⟩⟩
        · have HRD : Hid _ := And.intro hR hD
          have Hfu : Hid (n = full) := by show n = full; have := Hfull.out; omega
          clear hR hD hfu
          go_wp2_with fail
          go_ret
          exact ⟨s', V', (Held.grown hRl gX).trans hH, .inr ⟨Hfu.out, rfl, xs, HRD.out.1, by have := HRD.out.2; rwa [Hv.out.1, Hv.out.2.1, Hv.out.2.2] at this⟩⟩
end Go.Proofs.YbulkaigaFmt
