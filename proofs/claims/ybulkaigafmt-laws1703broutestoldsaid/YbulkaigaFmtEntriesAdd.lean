import Derived.Test.YbulkaigaFmtAttrs2
import Derived.Test.YbulkaigaFmtOrders
import Derived.BigRegion
namespace Go.Proofs.YbulkaigaFmt
open Go.RowKit Go.Extern.Stop Go.Stop Go.Extern

set_option maxRecDepth 100000 in
set_option maxHeartbeats 8000000 in
theorem entries_true (F : Interp) (base bV R : Nat) (s : St) (V : Value) (nR : Nat) (xR : List Value) (g o n c gp op np cp : Nat) (P : Nat → Int) (es : List Ent) (hi lo bp : Int) (pp : Option Go.Addr) (w : World)
    (hF : F.answers w.tape) (hRib : Rib w base bV R s V nR xR) (hQ : s.nQ = 0) (hxQ : s.xQ = []) (hnA : s.nA ≤ 500000) (hnS : s.nS ≤ 500000) (hnR : nR ≤ 500000) (hes : es.length ≤ 300)
    (hg : g < w.heap.size) (hgo : Out R s g) (hgV : V.ownBlock ≠ some g) (hL : Lies w g o (be16 (es.length : Int) ++ encAll true es)) (hn : n ≤ 2 + (encAll true es).length) (hnc : n ≤ c)
    (h21 : w.cell? ⟨R, 21, none⟩ = some (.slice (some ⟨gp, op, none⟩) np cp)) (hgp : gp < w.heap.size) (hgpo : Out R s gp) (hgpV : V.ownBlock ≠ some gp) (hP : ∀ i, i < np → w.cell? ⟨gp, op + i, none⟩ = some (.int .u32 (P i)))
    (he : ∀ e ∈ es, e.peer < np ∧ e.peer ≤ 65535 ∧ e.asns.length ≤ 63 ∧ ∀ x ∈ e.asns, 0 ≤ x ∧ x ≤ 4294967295) :
    Calls Ybaf.prog 26 #[.pointer (some ⟨R, 0, none⟩), .slice (some ⟨g, o, none⟩) n c, .agg #[.int .u64 hi, .int .u64 lo, .pointer pp, .int .u8 bp], .bool true] w fun e w' => ∃ s' V', Held w w' R s V s' V' ∧
      ((n < 2 + (encAll true es).length ∧ ∃ k, e = .returned (.iface 93 (.pointer (some ⟨k, 0, none⟩)))) ∨
       (n = 2 + (encAll true es).length ∧ e = .returned .nilIface ∧ ∃ xs, Rib w' base bV R s' V' (nR + es.length) (xR ++ xs) ∧ Done w' R s' V' [.int .u64 hi, .int .u64 lo, .pointer pp, .int .u8 bp] P es xs)) := by
  have hRl := hRib.bld.RltH
  have gB := World.grownBy_alloc w (.cells #[.int .u64 hi, .int .u64 lo, .pointer pp, .int .u8 bp] 47) none
  obtain ⟨full, hfull⟩ : ∃ full, full = 2 + (encAll true es).length := ⟨_, rfl⟩
  rw [← hfull] at hn ⊢
  by_cases hn2 : n < 2
  · have m1 : (n : Int) < 2 := by omega
    go_enter Ybaf.func26, Ybaf.ntmps26
    go_wp2_with (go_at_call 23; go_must (refine (new_any _ _).mono ?_; rintro e w1 ⟨rfl, g1⟩))
    go_ret
    exact ⟨s, V, Held.grown hRl (grown_then gB g1), .inl ⟨by omega, _, rfl⟩⟩
  · have m1 : ¬ (n : Int) < 2 := by omega
    have m2 : (2 : Int) ≤ (n : Int) := by omega
    have m3 : 2 ≤ n := by omega
    have b0 : w.cell? ⟨g, o, none⟩ = some (.int .u8 ((es.length : Int) / 256)) := hL 0 _ rfl
    have b1 : w.cell? ⟨g, o + 1, none⟩ = some (.int .u8 ((es.length : Int) % 256)) := hL 1 _ rfl
    have b0' := gB.cell b0 (by simp)
    have b1' := gB.cell b1 (by simp)
    have hgB : g < (w.alloc (.cells #[.int .u64 hi, .int .u64 lo, .pointer pp, .int .u8 bp] 47)).heap.size := Nat.lt_of_lt_of_le hg gB.size
    by_cases hc2 : c = 2
    · subst hc2
      have hn22 : n = 2 := by omega
      subst hn22
      by_cases hes0 : es.length = 0
      · have hesn : es = [] := List.eq_nil_of_length_eq_zero hes0
        subst hesn
        go_enter Ybaf.func26, Ybaf.ntmps26
        go_wp2_with (go_at_call 24; go_must (refine (uint16_any g o _ _ _ _ _ (by omega) hgB (by omega) (by omega) (by omega) (by omega) b0' b1').mono ?_; rintro e w1 ⟨rfl, k1, rfl⟩; rw [value16]))
        refine wp_loop_rounds 1 ?_
        rw [rounds_succ]
        go_wp2_with fail
        go_ret
        have gG := grown_then gB (grown_then (World.grownBy_alloc _ (.cells #[] 80) none) (grown_drawn _ none k1))
        exact ⟨s, V, Held.grown hRl gG, .inr ⟨by rw [hfull]; rfl, rfl, [], by simpa using hRib.grown gG, Done.nil _ _ _ _ _ _⟩⟩
      · have hpos : (0 : Int) < (es.length : Int) := by omega
        have hlen : 2 < 2 + (encAll true es).length := by
          cases es with
          | nil => simp at hes0
          | cons e t => simp only [encAll, List.flatMap_cons, List.length_append, encEnt_length]; have : 0 < headLen true := by simp [headLen]
                        omega
        go_enter Ybaf.func26, Ybaf.ntmps26
        go_wp2_with (go_at_call 24; go_must (refine (uint16_any g o _ _ _ _ _ (by omega) hgB (by omega) (by omega) (by omega) (by omega) b0' b1').mono ?_; rintro e w1 ⟨rfl, k1, rfl⟩; rw [value16]))
        refine wp_loop_rounds 1 ?_
        rw [rounds_succ]
        go_wp2_with (go_at_call 20; go_must (refine (errorf_e2 F 0 es.length _ _ (by exact hF) (by rw [World.cell?_alloc_at (hn := by simp)]; rfl) (by rw [World.cell?_alloc_at (hn := by simp)]; rfl)).mono ?_; rintro e w2 ⟨rfl, g2⟩))
        go_ret
        exact ⟨s, V, Held.grown hRl (grown_then gB (grown_then (World.grownBy_alloc _ (.cells #[] 80) none) (grown_then (grown_drawn _ none k1) (grown_then (World.grownBy_alloc _ _ none) g2)))), .inl ⟨by omega, _, rfl⟩⟩
    · go_enter Ybaf.func26, Ybaf.ntmps26
      go_wp2_with (go_at_call 24; go_must (refine (uint16_any g o _ _ _ _ _ (by omega) hgB (by omega) (by omega) (by omega) (by omega) b0' b1').mono ?_; rintro e w1 ⟨rfl, k1, rfl⟩; rw [value16]))
      have gG := grown_then gB (grown_then (World.grownBy_alloc _ (.cells #[] 80) none) (grown_drawn _ none k1))
      have z0 := row_grown (heap_alloc_new w (.cells #[.int .u64 hi, .int .u64 lo, .pointer pp, .int .u8 bp] 47)) (grown_then (World.grownBy_alloc _ (.cells #[] 80) none) (grown_drawn _ none k1))
      obtain ⟨w0, hw0⟩ : ∃ w0, w0 = (((w.alloc (.cells #[.int .u64 hi, .int .u64 lo, .pointer pp, .int .u8 bp] 47)).alloc (.cells #[] 80)).drewN k1) := ⟨_, rfl⟩
      rw [← hw0] at gG z0 ⊢
      obtain ⟨bx, hbx⟩ : ∃ bx, bx = w.heap.size := ⟨_, rfl⟩
      rw [← hbx] at z0 ⊢
      have Hb0 : Hid (Rib w0 base bV R s V nR xR ∧ Held w w0 R s V s V) := ⟨hRib.grown gG, Held.grown hRl gG⟩
      have HL : Hid (Lies w0 g o (be16 (es.length : Int) ++ encAll true es)) := hL.block (gG.block g hg (by simp))
      have HP : Hid (∀ i, i < np → w0.cell? ⟨gp, op + i, none⟩ = some (.int .u32 (P i))) := fun i hi => (World.cell?_of_block (a := ⟨gp, op + i, none⟩) (gG.block gp hgp (by simp))).trans (hP i hi)
      have H21 : Hid (w0.cell? ⟨R, 21, none⟩ = some (.slice (some ⟨gp, op, none⟩) np cp)) := gG.cell h21 (by simp)
      have Hz : Hid (w0.heap[bx]? = some (.cells #[.int .u64 hi, .int .u64 lo, .pointer pp, .int .u8 bp] 47 (0, 0))) := z0
      have Hlt : Hid (g < w0.heap.size ∧ gp < w0.heap.size ∧ R < w0.heap.size ∧ bx < w0.heap.size) := ⟨Nat.lt_of_lt_of_le hg gG.size, Nat.lt_of_lt_of_le hgp gG.size, Nat.lt_of_lt_of_le hRl gG.size, (Array.getElem?_eq_some_iff.1 z0).1⟩
      have Hout : Hid ((Out R s g ∧ V.ownBlock ≠ some g) ∧ (Out R s gp ∧ V.ownBlock ≠ some gp) ∧ (Out R s bx ∧ V.ownBlock ≠ some bx)) := by
        refine ⟨⟨hgo, hgV⟩, ⟨hgpo, hgpV⟩, ⟨by omega, fun e => ?_, fun e => ?_, fun e => ?_⟩, fun e => ?_⟩
        · have := (hRib.bld.ltA e).2; omega
        · have := (hRib.bld.ltS e).2; omega
        · have := (hRib.bld.ltQ e).2; omega
        · have := hRib.ltV e; omega
      have He : Hid (∀ e ∈ es, e.peer < np ∧ e.peer ≤ 65535 ∧ e.asns.length ≤ 63 ∧ ∀ x ∈ e.asns, 0 ≤ x ∧ x ≤ 4294967295) := he
      have HF : Hid (F.answers w0.tape) := by have := hF; rw [← gG.tape] at this; exact this
      have Hoff : Hid (∀ k, offTo true es k ≤ 2 + (encAll true es).length) := offTo_le true es
      have Hq : Hid (s.nQ = 0 ∧ s.xQ = []) := ⟨hQ, hxQ⟩
      have Hfull : Hid (full = 2 + (encAll true es).length) := hfull
      have hfl : full ≤ 100000 := by have := encAll_length_le true es (fun e h => (he e h).2.2.1); omega
      obtain ⟨cnt, hcnt⟩ : ∃ cnt, cnt = es.length := ⟨_, rfl⟩
      have Hcnt : Hid (cnt = es.length) := hcnt
      rw [← hcnt] at hes ⊢
      clear hRib hL hP h21 z0 hgo hgV hgpo hgpV he hF hw0 gG gB b0 b1 b0' b1' hgB hRl hg hgp hQ hxQ hfull hcnt hbx
      go_loopw [1, 31] (fun b i wr => ∃ (k c' : Nat) (p : Option Go.Addr) (s1 : St) (V1 : Value) (xs : List Value), k ≤ cnt ∧ i = .int .i64 k ∧ offTo true es k ≤ n ∧ b = .slice p (n - offTo true es k) c' ∧ n - offTo true es k ≤ c' ∧
        (0 < n - offTo true es k → p = some ⟨g, o + offTo true es k, none⟩) ∧ Rib wr base bV R s1 V1 (nR + k) (xR ++ xs) ∧ Held w0 wr R s V s1 V1 ∧ s1.nQ = 0 ∧ s1.xQ = [] ∧ s1.nA ≤ s.nA + 63 * k ∧ s1.nS ≤ s.nS + k ∧
        Hid (Done wr R s1 V1 [.int .u64 hi, .int .u64 lo, .pointer pp, .int .u8 bp] P (es.take k) xs)) (fun _ i _ => cnt - (intOf i).toNat)
      case atStart =>
        exact ⟨0, c - 2, _, s, V, [], Nat.zero_le _, rfl, m3, rfl, by rw [offTo_zero]; omega, fun _ => rfl, by simpa using Hb0.out.1, Held.refl _ _ _ _, Hq.out.1, Hq.out.2, by omega, by omega, Done.nil _ _ _ _ _ _⟩
      case round =>
        obtain ⟨k, c', p, s1, V1, xs, hk, rfl, hof, rfl, hnc', hp, hRib, hHeld, hq1, hq2, hnA1, hnS1, hDone⟩ := hrel
        by_cases hlt : k < cnt
        · obtain ⟨e, hek⟩ : ∃ e, es[k]? = some e := ⟨_, List.getElem?_eq_getElem (by have := Hcnt.out; omega)⟩
          obtain ⟨hpe, hp65, hl63, hrx⟩ := He.out e (List.mem_of_getElem? hek)
          have hal := attrLen_le hl63
          have hnext := offTo_succ (ap := true) hek
          have hle := Hoff.out (k + 1)
          rw [← Hfull.out] at hle
          have hWg := hHeld.out g Hlt.out.1 Hout.out.1.1 Hout.out.1.2
          obtain ⟨f0, f1, f2, f3, f4⟩ := ((HL.out.block hWg.1).entry hek).fields
          have hgr : g < wr.heap.size := Nat.lt_of_lt_of_le Hlt.out.1 hHeld.size
          have hFr : F.answers wr.tape := by have := HF.out; rwa [← hHeld.tape] at this
          rw [show headLen true = 12 from rfl] at hnext f2 f3 f4
          obtain ⟨alen, halen⟩ : ∃ alen, alen = attrLen e.asns := ⟨_, rfl⟩
          have Hal : Hid (alen = attrLen e.asns) := halen
          obtain ⟨q, hq⟩ : ∃ q, q = o + offTo true es k := ⟨_, rfl⟩
          obtain ⟨N, hN⟩ : ∃ N, N = n - offTo true es k := ⟨_, rfl⟩
          have HNn : Hid (N = n - offTo true es k ∧ offTo true es k ≤ n ∧ offTo true es (k + 1) = offTo true es k + (12 + alen) ∧ offTo true es (k + 1) ≤ full ∧ q = o + offTo true es k ∧ es[k]? = some e) := ⟨hN, hof, by rw [halen]; exact hnext, hle, hq, hek⟩
          have HRib : Hid (Rib wr base bV R s1 V1 (nR + k) (xR ++ xs)) := hRib
          have HHeld : Hid (Held w0 wr R s V s1 V1) := hHeld
          have HHw : Hid (Held w wr R s V s1 V1) := Hb0.out.2.trans hHeld
          rw [← halen] at f2 f3 hal
          rw [← hq] at f0 f1 f2 f3 f4 hp
          rw [← hN] at hnc' hp ⊢
          have hNb : N ≤ 100000 := by omega
          clear hnext hle hN hof halen hq hek hRib hHeld hWg
          have hki : (k : Int) < (cnt : Int) := by omega
          by_cases hNA : N < 12
          · have r1 : (N : Int) < 12 := by omega
            go_wp2_with (go_at_call 20; go_must (refine (errorf_e2 F k cnt _ _ (by exact hFr) (by rw [World.cell?_alloc_at (hn := by simp)]; rfl) (by rw [World.cell?_alloc_at (hn := by simp)]; rfl)).mono ?_; rintro e w2 ⟨rfl, g2⟩))
            go_ret
            exact ⟨s1, V1, HHw.out.trans (Held.grown HRib.out.bld.RltH (grown_then (World.grownBy_alloc _ _ none) g2)), .inl ⟨by have := HNn.out; omega, _, rfl⟩⟩
          · have hpp := hp (by omega)
            subst hpp
            have r1 : ¬ (N : Int) < 12 := by omega
            have r2 : 12 ≤ (N : Int) := by omega
            have hRr := HRib.out.bld.RltH
            have h21r : wr.cell? ⟨R, 21, none⟩ = some (.slice (some ⟨gp, op, none⟩) np cp) := (HHeld.out.rest 21 (by omega) (by omega) (by omega) (by omega)).trans H21.out
            have r3 : ¬ ((np : Int) ≤ (e.peer : Int)) := by omega
            have r4 : (e.peer : Int) < (np : Int) := by omega
            go_wp2_with (go_at_call 24; go_must (refine (uint16_any g q N c' _ _ wr (by omega) hgr (by omega) (by omega) (by omega) (by omega) f0 f1).mono ?_; rintro e2 w1 ⟨rfl, k2, rfl⟩; rw [value16]))
            have g1 : wr.grownBy ((wr.alloc (.cells #[] 80)).drewN k2) none := grown_then (World.grownBy_alloc wr _ none) (grown_drawn _ none k2)
            have f2' := g1.cell f2 (by simp)
            have f3' := g1.cell f3 (by simp)
            rw [show 12 - 2 = 10 from rfl] at f2' f3'
            have hg1 : g < ((wr.alloc (.cells #[] 80)).drewN k2).heap.size := Nat.lt_of_lt_of_le hgr g1.size
            obtain ⟨w1, hw1⟩ : ∃ w1, w1 = (wr.alloc (.cells #[] 80)).drewN k2 := ⟨_, rfl⟩
            rw [← hw1] at g1 f2' f3' hg1 ⊢
            have w6 : IntKind.i64.wrap 10 = 10 := by rfl
            have w7 : IntKind.i64.wrap (12 + (alen : Int)) = 12 + (alen : Int) := by simp [IntKind.wrap, IntKind.bits, IntKind.signed]; omega
            have w8 : IntKind.i64.wrap (alen : Int) = (alen : Int) := by simp [IntKind.wrap, IntKind.bits, IntKind.signed]; omega
            have hc6 : ¬ c' = 10 := by omega
            have r5 : (10 : Int) ≤ (N : Int) := by omega
            have hH0 : True := trivial
            clear hw1 f0 f1 f2 f3 h21r hFr
            refine wp_region_last (fun _ => True) 7 (by kernel_rfl) hH0 (fun hH => ?_)
            refine wpAnyL_takeD 0 (v := ?vq0) (by kernel_rfl) rfl (by kernel_rfl) (by kernel_rfl) (by kernel_rfl) (fun _ _ _ h => h) (by rfl) hH ?yq0 ?rq0
            case yq0 => (intro wz hSw; (try dsimp only at hSw); go_simp; try with_reducible rfl)
            try simp only [Act.put, List.setIfInBounds_toArray, List.set_cons_zero, List.set_cons_succ]
            refine wpAnyL_takeD 1 (v := ?vq1) (by kernel_rfl) rfl (by kernel_rfl) (by kernel_rfl) (by kernel_rfl) (fun _ _ _ h => h) (by rfl) hH ?yq1 ?rq1
            case yq1 => (intro wz hSw; (try dsimp only at hSw); go_simp; try with_reducible rfl)
            try simp only [Act.put, List.setIfInBounds_toArray, List.set_cons_zero, List.set_cons_succ]
            refine wpAnyL_takeD 2 (v := ?vq2) (by kernel_rfl) rfl (by kernel_rfl) (by kernel_rfl) (by kernel_rfl) (fun _ _ _ h => h) (by rfl) hH ?yq2 ?rq2
            case yq2 => (intro wz hSw; (try dsimp only at hSw); go_simp; try with_reducible rfl)
            try simp only [Act.put, List.setIfInBounds_toArray, List.set_cons_zero, List.set_cons_succ]
            refine wpAnyL_takeD 3 (v := ?vq3) (by kernel_rfl) rfl (by kernel_rfl) (by kernel_rfl) (by kernel_rfl) (fun _ _ _ h => h) (by rfl) hH ?yq3 ?rq3
            case yq3 => (intro wz hSw; (try dsimp only at hSw); go_simp; try with_reducible rfl)
            try simp only [Act.put, List.setIfInBounds_toArray, List.set_cons_zero, List.set_cons_succ]
            refine wpAnyL_takeD 4 (v := ?vq4) (by kernel_rfl) rfl (by kernel_rfl) (by kernel_rfl) (by kernel_rfl) (fun _ _ _ h => h) (by rfl) hH ?yq4 ?rq4
            case yq4 => (intro wz hSw; (try dsimp only at hSw); go_simp; try with_reducible rfl)
            try simp only [Act.put, List.setIfInBounds_toArray, List.set_cons_zero, List.set_cons_succ]
            refine wpAnyL_oneD 5 (by kernel_rfl) rfl (fun K hK => ?_)
            go_simp
            refine (uint16_any g (q + 10) (N - 10) (c' - 10) _ _ w1.drew (by omega) hg1 (by omega) (by omega) (by omega) (by omega) f2' f3').mono ?_
            rintro e2 w2 ⟨rfl, k3, rfl⟩
            rw [value16]
            refine hK _ _ (fun _ => trivial) (fun _ => ?_)
            clear hK K
            try simp only [Act.put, List.setIfInBounds_toArray, List.set_cons_zero, List.set_cons_succ]
            refine wpAnyL_oneD 6 (by kernel_rfl) rfl (fun K hK => ?_)
            go_simp
            refine hK _ _ (fun _ => trivial) (fun _ => ?_)
            clear hK K
            try simp only [Act.put, List.setIfInBounds_toArray, List.set_cons_zero, List.set_cons_succ]
            refine wpAnyL_oneD 7 (by kernel_rfl) rfl (fun K hK => ?_)
            go_simp
            refine hK _ _ (fun hno => absurd rfl hno) (fun _ => ?_)
            clear hK K
            try simp only [Act.put, List.setIfInBounds_toArray, List.set_cons_zero, List.set_cons_succ]
            refine wpAnyL_done (by kernel_rfl) ?_ _
            have g2 : w1.grownBy ((w1.alloc (.cells #[] 80)).drewN (1 + k3)) none := grown_then (World.grownBy_alloc w1 _ none) (grown_drawn _ none _)
            obtain ⟨w2, hw2⟩ : ∃ w2, w2 = (w1.alloc (.cells #[] 80)).drewN (1 + k3) := ⟨_, rfl⟩
            rw [← hw2] at g2 ⊢
            have g12 := grown_then g1 g2
            clear hw2 g1 g2 f2' f3' hg1 hH
            by_cases hNL : N < 12 + alen
            · have r6 : (N : Int) - 12 < (alen : Int) := by omega
              have hFr2 : F.answers w2.tape := by have := HF.out; rw [← HHeld.out.tape, ← g12.tape] at this; exact this
              go_wp2_with (go_at_call 20; go_must (refine (errorf_a2 F k alen _ _ (by exact hFr2) (by rw [World.cell?_alloc_at (hn := by simp)]; rfl) (by rw [World.cell?_alloc_at (hn := by simp)]; rfl)).mono ?_; rintro e3 w3 ⟨rfl, g3⟩))
              go_ret
              exact ⟨s1, V1, HHw.out.trans (Held.grown HRib.out.bld.RltH (grown_then g12 (grown_then (World.grownBy_alloc _ _ none) g3))), .inl ⟨by have := HNn.out; omega, _, rfl⟩⟩
            · have r6 : ¬ ((N : Int) - 12 < (alen : Int)) := by omega
              have r7 : (alen : Int) ≤ (N : Int) - 12 := by omega
              go_wp2_with fail
              have r8 : (12 : Int) ≤ 12 + (alen : Int) := by omega
              have r9 : 12 + (alen : Int) ≤ (c' : Int) := by omega
              have r10 : (12 + (alen : Int)).toNat = 12 + alen := by omega
              have r11 : 12 + alen - 12 = alen := by omega
              have w9 : IntKind.i64.wrap 12 = 12 := by rfl
              have r12 : (0 : Int) ≤ 12 + (alen : Int) := by omega
              have HR2 := HRib.out.grown (grown_then g12 (grown_drew w2 none))
              have HG2 : Held wr w2.drew R s1 V1 s1 V1 := Held.grown HRib.out.bld.RltH (grown_then g12 (grown_drew w2 none))
              have HW2 := HHeld.out.trans HG2
              have HL2 : Lies w2.drew g (q + 12) (attrBytes e.asns) := f4.block (HG2.out g hgr (HHeld.out.out g Hlt.out.1 Hout.out.1.1 Hout.out.1.2).2.1 (HHeld.out.out g Hlt.out.1 Hout.out.1.1 Hout.out.1.2).2.2).1
              obtain ⟨p8, hp8⟩ : ∃ p8 : Option Go.Addr, p8 = (if c' = 12 then some ⟨g, q, none⟩ else some ⟨g, q + 12, none⟩) := ⟨_, rfl⟩
              have HP8 : Hid (p8 = (if c' = 12 then some ⟨g, q, none⟩ else some ⟨g, q + 12, none⟩)) := hp8
              have hp8' : 0 < attrLen e.asns → p8 = some ⟨g, q + 12, none⟩ := fun h => hp8.trans (if_neg (by have := Hal.out; omega))
              have hAt := attrs_any base R g (q + 12) (c' - 12) p8 s1 e.asns w2.drew hl63 hrx hp8' (by have := Hal.out; omega) (Nat.lt_of_lt_of_le Hlt.out.1 HW2.size) (HW2.out g Hlt.out.1 Hout.out.1.1 Hout.out.1.2).2.1 HL2 (by omega) (by omega) hq1 hq2 HR2.bld
              rw [← Hal.out] at hAt
              have HAt : Hid _ := hAt
              have HR2' : Hid _ := HR2
              have HW2' : Hid (Held w0 w2.drew R s V s1 V1) := HW2
              have HHw2 : Hid (Held w w2.drew R s V s1 V1) := HHw.out.trans HG2
              have hH0 : True := trivial
              clear hAt HR2 HW2 HG2 HL2 f4 hp8 hp8'
              refine wp_region_last (fun _ => True) 16 (by kernel_rfl) hH0 (fun hH => ?_)
              refine wpAnyL_takeD 0 (v := ?vb0) (by kernel_rfl) rfl (by kernel_rfl) (by kernel_rfl) (by kernel_rfl) (fun _ _ _ h => h) (by rfl) hH ?yb0 ?rb0
              case yb0 => (intro wz hSw; (try dsimp only at hSw); go_simp; try with_reducible rfl)
              try simp only [Act.put, List.setIfInBounds_toArray, List.set_cons_zero, List.set_cons_succ]
              refine wpAnyL_takeD 1 (v := ?vb1) (by kernel_rfl) rfl (by kernel_rfl) (by kernel_rfl) (by kernel_rfl) (fun _ _ _ h => h) (by rfl) hH ?yb1 ?rb1
              case yb1 => (intro wz hSw; (try dsimp only at hSw); go_simp; try with_reducible rfl)
              try simp only [Act.put, List.setIfInBounds_toArray, List.set_cons_zero, List.set_cons_succ]
              refine wpAnyL_takeD 2 (v := ?vb2) (by kernel_rfl) rfl (by kernel_rfl) (by kernel_rfl) (by kernel_rfl) (fun _ _ _ h => h) (by rfl) hH ?yb2 ?rb2
              case yb2 => (intro wz hSw; (try dsimp only at hSw); go_simp; try with_reducible rfl)
              try simp only [Act.put, List.setIfInBounds_toArray, List.set_cons_zero, List.set_cons_succ]
              refine wpAnyL_takeD 3 (v := ?vb3) (by kernel_rfl) rfl (by kernel_rfl) (by kernel_rfl) (by kernel_rfl) (fun _ _ _ h => h) (by rfl) hH ?yb3 ?rb3
              case yb3 => (intro wz hSw; (try dsimp only at hSw); go_simp; try with_reducible rfl)
              try simp only [Act.put, List.setIfInBounds_toArray, List.set_cons_zero, List.set_cons_succ]
              refine wpAnyL_takeD 4 (v := ?vb4) (by kernel_rfl) rfl (by kernel_rfl) (by kernel_rfl) (by kernel_rfl) (fun _ _ _ h => h) (by rfl) hH ?yb4 ?rb4
              case yb4 => (intro wz hSw; (try dsimp only at hSw); go_simp; try with_reducible rfl)
              try simp only [Act.put, List.setIfInBounds_toArray, List.set_cons_zero, List.set_cons_succ]
              refine wpAnyL_takeD 5 (v := ?vb5) (by kernel_rfl) rfl (by kernel_rfl) (by kernel_rfl) (by kernel_rfl) (fun _ _ _ h => h) (by rfl) hH ?yb5 ?rb5
              case yb5 => (intro wz hSw; (try dsimp only at hSw); go_simp; try with_reducible rfl)
              try simp only [Act.put, List.setIfInBounds_toArray, List.set_cons_zero, List.set_cons_succ]
              refine wpAnyL_takeD 6 (v := ?vb6) (by kernel_rfl) rfl (by kernel_rfl) (by kernel_rfl) (by kernel_rfl) (fun _ _ _ h => h) (by rfl) hH ?yb6 ?rb6
              case yb6 => (intro wz hSw; (try dsimp only at hSw); go_simp; try with_reducible rfl)
              try simp only [Act.put, List.setIfInBounds_toArray, List.set_cons_zero, List.set_cons_succ]
              refine wpAnyL_takeD 7 (v := ?vb7) (by kernel_rfl) rfl (by kernel_rfl) (by kernel_rfl) (by kernel_rfl) (fun _ _ _ h => h) (by rfl) hH ?yb7 ?rb7
              case yb7 => (intro wz hSw; (try dsimp only at hSw); go_simp; try with_reducible rfl)
              try simp only [Act.put, List.setIfInBounds_toArray, List.set_cons_zero, List.set_cons_succ]
              refine wpAnyL_takeD 8 (v := ?vb8) (by kernel_rfl) rfl (by kernel_rfl) (by kernel_rfl) (by kernel_rfl) (fun _ _ _ h => h) (by rfl) hH ?yb8 ?rb8
              case yb8 => (intro wz hSw; (try dsimp only at hSw); go_simp; try with_reducible rfl)
              try simp only [Act.put, List.setIfInBounds_toArray, List.set_cons_zero, List.set_cons_succ]
              refine wpAnyL_oneD 9 (by kernel_rfl) rfl (fun K hK => ?_)
              go_simp
              rw [← HP8.out]
              refine Calls.mono HAt.out ?_
              rintro e2 w3 ⟨path, s2, rfl, hB2, hK2, hq3, hq4, hA2, hS2, hPath⟩
              have HR3 := HR2'.out.keeps hK2 hB2
              have HW3 : Hid (Held w0 w3 R s V s2 V1) := HW2'.out.trans (hK2.held V1)
              have HHw3 : Hid (Held w w3 R s V s2 V1) := HHw2.out.trans (hK2.held V1)
              have HPath := hPath V1 HR3.out
              have Hdn : Hid (Done w3 R s2 V1 [.int .u64 hi, .int .u64 lo, .pointer pp, .int .u8 bp] P (es.take k) xs) := hDone.out.held ((Held.grown HRib.out.bld.RltH (grown_then g12 (grown_drew w2 none))).trans (hK2.held V1))
              obtain ⟨pa, pl, pc, rfl⟩ : ∃ pa pl pc, path = .slice pa pl pc := by
                rcases HPath with ⟨_, h⟩ | ⟨_, _, _, _, _, h, _⟩
                · exact ⟨_, _, _, h⟩
                · exact ⟨_, _, _, h⟩
              have HPath' : Hid _ := HPath
              have HR3' : Hid _ := HR3
              refine hK _ _ (fun _ => trivial) (fun _ => ?_)
              clear hK K hPath HPath HR3 hB2 hK2 HAt HR2' HW2' HHw2 g12 hDone
              try simp only [Act.put, List.setIfInBounds_toArray, List.set_cons_zero, List.set_cons_succ]
              refine wpAnyL_oneD 10 (by kernel_rfl) rfl (fun K hK => ?_)
              go_simp
              refine hK _ _ (fun _ => trivial) (fun _ => ?_)
              clear hK K
              try simp only [Act.put, List.setIfInBounds_toArray, List.set_cons_zero, List.set_cons_succ]
              refine wpAnyL_takeD 11 (v := ?vb11) (by kernel_rfl) rfl (by kernel_rfl) (by kernel_rfl) (by kernel_rfl) (fun _ _ _ h => h) (by rfl) hH ?yb11 ?rb11
              case yb11 => (intro wz hSw; (try dsimp only at hSw); go_simp; try with_reducible rfl)
              try simp only [Act.put, List.setIfInBounds_toArray, List.set_cons_zero, List.set_cons_succ]
              refine wpAnyL_takeD 12 (v := ?vb12) (by kernel_rfl) rfl (by kernel_rfl) (by kernel_rfl) (by kernel_rfl) (fun _ _ _ h => h) (by rfl) hH ?yb12 ?rb12
              case yb12 => (intro wz hSw; (try dsimp only at hSw); go_simp; try with_reducible rfl)
              try simp only [Act.put, List.setIfInBounds_toArray, List.set_cons_zero, List.set_cons_succ]
              refine wpAnyL_takeD 13 (v := ?vb13) (by kernel_rfl) rfl (by kernel_rfl) (by kernel_rfl) (by kernel_rfl) (fun _ _ _ h => h) (by rfl) hH ?yb13 ?rb13
              case yb13 => (intro wz hSw; (try dsimp only at hSw); go_simp; try with_reducible rfl)
              try simp only [Act.put, List.setIfInBounds_toArray, List.set_cons_zero, List.set_cons_succ]
              refine wpAnyL_oneD 14 (by kernel_rfl) rfl (fun K hK => ?_)
              go_simp
              refine hK _ _ (fun _ => trivial) (fun _ => ?_)
              clear hK K
              try simp only [Act.put, List.setIfInBounds_toArray, List.set_cons_zero, List.set_cons_succ]
              refine wpAnyL_oneD 15 (by kernel_rfl) rfl (fun K hK => ?_)
              go_simp
              refine hK _ _ (fun _ => trivial) (fun _ => ?_)
              clear hK K
              try simp only [Act.put, List.setIfInBounds_toArray, List.set_cons_zero, List.set_cons_succ]
              refine wpAnyL_oneD 16 (by kernel_rfl) rfl (fun K hK => ?_)
              go_simp
              refine hK _ _ (fun hno => absurd rfl hno) (fun _ => ?_)
              clear hK K
              try simp only [Act.put, List.setIfInBounds_toArray, List.set_cons_zero, List.set_cons_succ]
              refine wpAnyL_done (by kernel_rfl) ?_ _
              go_wp2_with fail
              have HR4 := HR3'.out.grown (grown_alloc_drew w3 (.cells #[.int .u64 hi, .int .u64 lo, .pointer pp, .int .u8 bp, .slice pa pl pc, .int .u32 (P e.peer), .int .u32 0] 51) none)
              have c16 := HR3'.out.cV
              have c21 : w3.cell? ⟨R, 21, none⟩ = some (.slice (some ⟨gp, op, none⟩) np cp) := (HW3.out.rest 21 (by omega) (by omega) (by omega) (by omega)).trans H21.out
              have hbxr : w3.heap[bx]? = some (.cells #[.int .u64 hi, .int .u64 lo, .pointer pp, .int .u8 bp] 47 (0, 0)) := (HW3.out.out bx Hlt.out.2.2.2 Hout.out.2.2.1 Hout.out.2.2.2).1.trans Hz.out
              obtain ⟨d0, d1, d2, d3, _⟩ := row4 hbxr
              have c50 : w3.cell? ⟨gp, op + e.peer, none⟩ = some (.int .u32 (P e.peer)) := (World.cell?_of_block (a := ⟨gp, op + e.peer, none⟩) (HW3.out.out gp Hlt.out.2.1 Hout.out.2.1.1 Hout.out.2.1.2).1).trans (HP.out e.peer hpe)
              have lR := HR3'.out.bld.RltH
              have lb : bx < w3.heap.size := World.block_lt_of_cell? w3 _ d0
              have lp : gp < w3.heap.size := World.block_lt_of_cell? w3 _ c50
              have ho2 := HR4.oV
              have hbb := HR4.hbV
              have Hn2 : Hid (∀ j u, ([.int .u64 hi, .int .u64 lo, .pointer pp, .int .u8 bp, .slice pa pl pc, .int .u32 (P e.peer), .int .u32 0] : List Value)[j]? = some u → (w3.alloc (.cells #[.int .u64 hi, .int .u64 lo, .pointer pp, .int .u8 bp, .slice pa pl pc, .int .u32 (P e.peer), .int .u32 0] 51)).drew.cell? ((⟨w3.heap.size, 0, none⟩ : Go.Addr).add j) = some u) := World.news_of_block (w := (w3.alloc (.cells #[.int .u64 hi, .int .u64 lo, .pointer pp, .int .u8 bp, .slice pa pl pc, .int .u32 (P e.peer), .int .u32 0] 51)).drew) (heap_alloc_new _ _)
              have Hz2 : Hid ((w3.alloc (.cells #[.int .u64 hi, .int .u64 lo, .pointer pp, .int .u8 bp, .slice pa pl pc, .int .u32 (P e.peer), .int .u32 0] 51)).drew.heap.size = w3.heap.size + 1) := by show _ = _; simp
              have s0 : (w3.alloc (.cells #[.int .u64 hi, .int .u64 lo, .pointer pp, .int .u8 bp, .slice pa pl pc, .int .u32 (P e.peer), .int .u32 0] 51)).drew.cell? ⟨R, 21, none⟩ = _ := (grown_alloc_drew w3 _ none).cell c21 (by simp)
              have hh0 : (w3.alloc (.cells #[.int .u64 hi, .int .u64 lo, .pointer pp, .int .u8 bp, .slice pa pl pc, .int .u32 (P e.peer), .int .u32 0] 51)).drew.cell? ⟨bx, 0, none⟩ = _ := (grown_alloc_drew w3 _ none).cell d0 (by simp)
              have hh1 : (w3.alloc (.cells #[.int .u64 hi, .int .u64 lo, .pointer pp, .int .u8 bp, .slice pa pl pc, .int .u32 (P e.peer), .int .u32 0] 51)).drew.cell? ⟨bx, 1, none⟩ = _ := (grown_alloc_drew w3 _ none).cell d1 (by simp)
              have hh2 : (w3.alloc (.cells #[.int .u64 hi, .int .u64 lo, .pointer pp, .int .u8 bp, .slice pa pl pc, .int .u32 (P e.peer), .int .u32 0] 51)).drew.cell? ⟨bx, 2, none⟩ = _ := (grown_alloc_drew w3 _ none).cell d2 (by simp)
              have hh3 : (w3.alloc (.cells #[.int .u64 hi, .int .u64 lo, .pointer pp, .int .u8 bp, .slice pa pl pc, .int .u32 (P e.peer), .int .u32 0] 51)).drew.cell? ⟨bx, 3, none⟩ = _ := (grown_alloc_drew w3 _ none).cell d3 (by simp)
              have hh4 : (w3.alloc (.cells #[.int .u64 hi, .int .u64 lo, .pointer pp, .int .u8 bp, .slice pa pl pc, .int .u32 (P e.peer), .int .u32 0] 51)).drew.cell? ⟨gp, op + e.peer, none⟩ = _ := (grown_alloc_drew w3 _ none).cell c50 (by simp)
              have vb : some bx ≠ V1.ownBlock := fun e => (HW3.out.out bx Hlt.out.2.2.2 Hout.out.2.2.1 Hout.out.2.2.2).2.2 e.symm
              have vg : some gp ≠ V1.ownBlock := fun e => (HW3.out.out gp Hlt.out.2.1 Hout.out.2.1.1 Hout.out.2.1.2).2.2 e.symm
              have rp0 : (0 : Int) ≤ (e.peer : Int) := by omega
              have rp1 : e.peer < np := hpe
              refine wp_region_last (fun w' => w'.cell? ⟨R, 16, none⟩ = some V1 ∧ w'.cell? ⟨R, 21, none⟩ = some (.slice (some ⟨gp, op, none⟩) np cp) ∧ w'.cell? ⟨bx, 0, none⟩ = some (.int .u64 hi) ∧ w'.cell? ⟨bx, 1, none⟩ = some (.int .u64 lo) ∧ w'.cell? ⟨bx, 2, none⟩ = some (.pointer pp) ∧ w'.cell? ⟨bx, 3, none⟩ = some (.int .u8 bp) ∧ w'.cell? ⟨gp, op + e.peer, none⟩ = some (.int .u32 (P e.peer))) 19 (by kernel_rfl) ⟨c16, c21, d0, d1, d2, d3, c50⟩ (fun hH => ?_)
              refine wpAnyL_takeD 0 (v := ?vc0) (by kernel_rfl) rfl (by kernel_rfl) (by kernel_rfl) (by kernel_rfl) (fun _ _ _ h => h) (by rfl) hH ?yc0 ?rc0
              case yc0 => (intro wz hSw; (try dsimp only at hSw); go_simp; try with_reducible rfl)
              try simp only [Act.put, List.setIfInBounds_toArray, List.set_cons_zero, List.set_cons_succ]
              refine wpAnyL_takeD 1 (v := ?vc1) (by kernel_rfl) rfl (by kernel_rfl) (by kernel_rfl) (by kernel_rfl) (fun _ _ _ h => h) (by rfl) hH ?yc1 ?rc1
              case yc1 => (intro wz hSw; (try dsimp only at hSw); go_simp; try with_reducible rfl)
              try simp only [Act.put, List.setIfInBounds_toArray, List.set_cons_zero, List.set_cons_succ]
              refine wpAnyL_takeD 2 (v := ?vc2) (by kernel_rfl) rfl (by kernel_rfl) (by kernel_rfl) (by kernel_rfl) (fun _ _ _ h => h) (by rfl) hH ?yc2 ?rc2
              case yc2 => (intro wz hSw; (try dsimp only at hSw); go_simp; try with_reducible rfl)
              try simp only [Act.put, List.setIfInBounds_toArray, List.set_cons_zero, List.set_cons_succ]
              refine wpAnyL_takeD 3 (v := ?vc3) (by kernel_rfl) rfl (by kernel_rfl) (by kernel_rfl) (by kernel_rfl) (fun _ _ _ h => h) (by rfl) hH ?yc3 ?rc3
              case yc3 => (intro wz hSw; (try dsimp only at hSw); go_simp; try with_reducible rfl)
              try simp only [Act.put, List.setIfInBounds_toArray, List.set_cons_zero, List.set_cons_succ]
              refine wpAnyL_takeD 4 (v := ?vc4) (by kernel_rfl) rfl (by kernel_rfl) (by kernel_rfl) (by kernel_rfl) (fun _ _ _ h => h) (by rfl) hH ?yc4 ?rc4
              case yc4 => (intro wz hSw; (try dsimp only at hSw); go_simp; try with_reducible rfl)
              try simp only [Act.put, List.setIfInBounds_toArray, List.set_cons_zero, List.set_cons_succ]
              refine wpAnyL_takeD 5 (v := ?vc5) (by kernel_rfl) rfl (by kernel_rfl) (by kernel_rfl) (by kernel_rfl) (fun _ _ _ h => h) (by rfl) hH ?yc5 ?rc5
              case yc5 => (intro wz hSw; (try dsimp only at hSw); go_simp; try with_reducible rfl)
              try simp only [Act.put, List.setIfInBounds_toArray, List.set_cons_zero, List.set_cons_succ]
              refine wpAnyL_takeD 6 (v := ?vc6) (by kernel_rfl) rfl (by kernel_rfl) (by kernel_rfl) (by kernel_rfl) (fun _ _ _ h => h) (by rfl) hH ?yc6 ?rc6
              case yc6 => (intro wz hSw; (try dsimp only at hSw); go_simp; try with_reducible rfl)
              try simp only [Act.put, List.setIfInBounds_toArray, List.set_cons_zero, List.set_cons_succ]
              refine wpAnyL_takeD 7 (v := ?vc7) (by kernel_rfl) rfl (by kernel_rfl) (by kernel_rfl) (by kernel_rfl) (fun _ _ _ h => h) (by rfl) hH ?yc7 ?rc7
              case yc7 => (intro wz hSw; (try dsimp only at hSw); go_simp; try with_reducible rfl)
              try simp only [Act.put, List.setIfInBounds_toArray, List.set_cons_zero, List.set_cons_succ]
              refine wpAnyL_takeD 8 (v := ?vc8) (by kernel_rfl) rfl (by kernel_rfl) (by kernel_rfl) (by kernel_rfl) (fun _ _ _ h => h) (by rfl) hH ?yc8 ?rc8
              case yc8 => (intro wz hSw; (try dsimp only at hSw); go_simp; try with_reducible rfl)
              try simp only [Act.put, List.setIfInBounds_toArray, List.set_cons_zero, List.set_cons_succ]
              refine wpAnyL_takeD 9 (v := ?vc9) (by kernel_rfl) rfl (by kernel_rfl) (by kernel_rfl) (by kernel_rfl) (fun _ _ _ h => h) (by rfl) hH ?yc9 ?rc9
              case yc9 => (intro wz hSw; (try dsimp only at hSw); go_simp; try with_reducible rfl)
              try simp only [Act.put, List.setIfInBounds_toArray, List.set_cons_zero, List.set_cons_succ]
              refine wpAnyL_takeD 10 (v := ?vc10) (by kernel_rfl) rfl (by kernel_rfl) (by kernel_rfl) (by kernel_rfl) (fun _ _ _ h => h) (by rfl) hH ?yc10 ?rc10
              case yc10 => (intro wz hSw; (try dsimp only at hSw); go_simp; try with_reducible rfl)
              try simp only [Act.put, List.setIfInBounds_toArray, List.set_cons_zero, List.set_cons_succ]
              refine wpAnyL_takeD 11 (v := ?vc11) (by kernel_rfl) rfl (by kernel_rfl) (by kernel_rfl) (by kernel_rfl) (fun _ _ _ h => h) (by rfl) hH ?yc11 ?rc11
              case yc11 => (intro wz hSw; (try dsimp only at hSw); go_simp; try with_reducible rfl)
              try simp only [Act.put, List.setIfInBounds_toArray, List.set_cons_zero, List.set_cons_succ]
              refine wpAnyL_takeD 12 (v := ?vc12) (by kernel_rfl) rfl (by kernel_rfl) (by kernel_rfl) (by kernel_rfl) (fun _ _ _ h => h) (by rfl) hH ?yc12 ?rc12
              case yc12 => (intro wz hSw; (try dsimp only at hSw); go_simp; try with_reducible rfl)
              try simp only [Act.put, List.setIfInBounds_toArray, List.set_cons_zero, List.set_cons_succ]
              refine wpAnyL_takeD 13 (v := ?vc13) (by kernel_rfl) rfl (by kernel_rfl) (by kernel_rfl) (by kernel_rfl) (fun _ _ _ h => h) (by rfl) hH ?yc13 ?rc13
              case yc13 => (intro wz hSw; (try dsimp only at hSw); go_simp; try with_reducible rfl)
              try simp only [Act.put, List.setIfInBounds_toArray, List.set_cons_zero, List.set_cons_succ]
              refine wpAnyL_takeD 14 (v := ?vc14) (by kernel_rfl) rfl (by kernel_rfl) (by kernel_rfl) (by kernel_rfl) (fun _ _ _ h => h) (by rfl) hH ?yc14 ?rc14
              case yc14 => (intro wz hSw; (try dsimp only at hSw); go_simp; try with_reducible rfl)
              try simp only [Act.put, List.setIfInBounds_toArray, List.set_cons_zero, List.set_cons_succ]
              refine wpAnyL_oneD 15 (by kernel_rfl) rfl (fun K hK => ?_)
              go_simp
              refine hK _ _ (fun _ => ⟨HR4.cV, s0, hh0, hh1, hh2, hh3, hh4⟩) (fun hH2 => ?_)
              replace hH2 := hH2 (by decide)
              clear hK K hH
              have hH := hH2
              clear hH2
              try simp only [Act.put, List.setIfInBounds_toArray, List.set_cons_zero, List.set_cons_succ]
              refine wpAnyL_oneD 16 (by kernel_rfl) rfl (fun K hK => ?_)
              refine step_append_keeps _ rfl (.tmp 105) (.tmp 116) 52 rfl bV 51 Ybaf.t51 (.agg #[.int .u64 0, .int .u64 0, .pointer none, .int .u8 0, .slice none 0 0, .int .u32 0, .int .u32 0]) 7 64 Ybaf.underlying52 Ybaf.info51 rfl rfl rfl rfl (by omega) V1 (nR + k) (xR ++ xs) (by rfl) ho2 ⟨w3.heap.size, 0, none⟩ 1 1 [.int .u64 hi, .int .u64 lo, .pointer pp, .int .u8 bp, .slice pa pl pc, .int .u32 (P e.peer), .int .u32 0] (by rfl) rfl Hn2.out (by simp [Value.oneCell']) (by omega) (by unfold maxLen; omega) (by omega) hbb (w3.heap.size + 1) Hz2.out ?_
              intro gv capv w4 hown4 hgrow4 hat4 _ _
              have hf4 := (HR4.front hgrow4 16).2
              have i16 := (HR4.front hgrow4 16).1.trans HR4.cV
              have i21 := (HR4.front hgrow4 21).1.trans s0
              refine hK _ _ (fun _ => ⟨i16, i21, hgrow4.cell hh0 vb, hgrow4.cell hh1 vb, hgrow4.cell hh2 vb, hgrow4.cell hh3 vb, hgrow4.cell hh4 vg⟩) (fun hH2 => ?_)
              replace hH2 := hH2 (by decide)
              clear hK K hH
              have hH := hH2
              clear hH2
              try simp only [Act.put, List.setIfInBounds_toArray, List.set_cons_zero, List.set_cons_succ]
              refine wpAnyL_oneD 17 (by kernel_rfl) rfl (fun K hK => ?_)
              go_simp
              refine hK _ _ (fun _ => hH) (fun _ => ?_)
              clear hK K
              try simp only [Act.put, List.setIfInBounds_toArray, List.set_cons_zero, List.set_cons_succ]
              refine wpAnyL_oneD 18 (by kernel_rfl) rfl (fun K hK => ?_)
              go_simp
              refine hK _ _ (fun _ => hH) (fun _ => ?_)
              clear hK K
              try simp only [Act.put, List.setIfInBounds_toArray, List.set_cons_zero, List.set_cons_succ]
              refine wpAnyL_oneD 19 (by kernel_rfl) rfl (fun K hK => ?_)
              go_simp
              refine hK _ _ (fun hno => absurd rfl hno) (fun _ => ?_)
              clear hK K
              try simp only [Act.put, List.setIfInBounds_toArray, List.set_cons_zero, List.set_cons_succ]
              refine wpAnyL_done (by kernel_rfl) ?_ _
              obtain ⟨p1, p2⟩ := HR4.push hgrow4 hown4 (by rw [Hz2.out]; exact hat4)
              have H35 : Held w3 _ R s2 V1 s2 _ := (Held.grown HR3'.out.bld.RltH (grown_alloc_drew w3 (.cells #[.int .u64 hi, .int .u64 lo, .pointer pp, .int .u8 bp, .slice pa pl pc, .int .u32 (P e.peer), .int .u32 0] 51) none)).trans p2
              have HD : Hid (Done (w4.setCell ⟨R, 16, none⟩ (.slice (some ⟨gv, 0, none⟩) (nR + k + 1) capv)) R s2 (.slice (some ⟨gv, 0, none⟩) (nR + k + 1) capv) [.int .u64 hi, .int .u64 lo, .pointer pp, .int .u8 bp] P (es.take (k + 1)) (xs ++ [.int .u64 hi, .int .u64 lo, .pointer pp, .int .u8 bp, .slice pa pl pc, .int .u32 (P e.peer), .int .u32 0])) := by
                have hte : es.take (k + 1) = es.take k ++ [e] := by rw [List.take_add_one, HNn.out.2.2.2.2.2]; rfl
                show Done _ _ _ _ _ _ _ _
                rw [hte]
                exact (Hdn.out.held H35).snoc rfl (PathOK.held HPath'.out H35)
              have HRn : Hid (Rib (w4.setCell ⟨R, 16, none⟩ (.slice (some ⟨gv, 0, none⟩) (nR + k + 1) capv)) base bV R s2 (.slice (some ⟨gv, 0, none⟩) (nR + k + 1) capv) (nR + (k + 1)) (xR ++ (xs ++ [.int .u64 hi, .int .u64 lo, .pointer pp, .int .u8 bp, .slice pa pl pc, .int .u32 (P e.peer), .int .u32 0]))) := by
                show Rib _ _ _ _ _ _ _ _
                rw [← List.append_assoc]
                exact p1
              have HHn : Hid (Held w0 (w4.setCell ⟨R, 16, none⟩ (.slice (some ⟨gv, 0, none⟩) (nR + k + 1) capv)) R s V s2 (.slice (some ⟨gv, 0, none⟩) (nR + k + 1) capv)) := HW3.out.trans H35
              obtain ⟨w5, hw5⟩ : ∃ w5, w5 = w4.setCell ⟨R, 16, none⟩ (.slice (some ⟨gv, 0, none⟩) (nR + k + 1) capv) := ⟨_, rfl⟩
              rw [← hw5] at HD HRn HHn ⊢
              have r13 : 12 + (alen : Int) ≤ (N : Int) := by omega
              clear H35 p1 p2 hw5 hown4 hgrow4 hat4 hf4 i16 i21 hH HR4 ho2 hbb Hn2 Hz2 s0 hh0 hh1 hh2 hh3 hh4 vb vg c16 c21 hbxr d0 d1 d2 d3 c50 lR lb lp HPath' Hdn HR3' HW3 HHw3
              by_cases hcc : c' = 12 + alen
              · go_wp2_with fail
                go_roundw
                case rel => exact ⟨k + 1, 0, _, s2, _, _, by omega, by go_num, by have := HNn.out; omega, by have := HNn.out; rw [show n - offTo true es (k + 1) = N - (12 + alen) by omega], by have := HNn.out; omega, fun h => absurd h (by have := HNn.out; omega), HRn.out, HHn.out, hq3, hq4, by omega, by omega, HD.out⟩
                case measure => simp [intOf]; omega
              · go_wp2_with fail
                go_roundw
                case rel => exact ⟨k + 1, c' - (12 + alen), _, s2, _, _, by omega, by go_num, by have := HNn.out; omega, by have := HNn.out; rw [show n - offTo true es (k + 1) = N - (12 + alen) by omega], by have := HNn.out; omega, fun _ => by have := HNn.out; rw [show o + offTo true es (k + 1) = q + (12 + alen) by omega], HRn.out, HHn.out, hq3, hq4, by omega, by omega, HD.out⟩
                case measure => simp [intOf]; omega
        · obtain rfl : k = cnt := by omega
          have hofn : offTo true es k = full := by rw [Hfull.out, ← offTo_all, Hcnt.out]
          rw [hofn] at hof
          have Hnf : Hid (n = full) := by show n = full; omega
          have hz : n - offTo true es k = 0 := by have := Hnf.out; omega
          rw [hz]
          have hall : es.take k = es := List.take_of_length_le (by rw [Hcnt.out]; exact Nat.le_refl _)
          have HH : Hid (Done wr R s1 V1 [.int .u64 hi, .int .u64 lo, .pointer pp, .int .u8 bp] P es xs ∧ Rib wr base bV R s1 V1 (nR + k) (xR ++ xs) ∧ Held w wr R s V s1 V1) := ⟨by have := hDone.out; rwa [hall] at this, hRib, Hb0.out.2.trans hHeld⟩
          clear hRib hHeld hDone hz hofn hall hp hof hn
          go_wp2_with fail
          go_ret
          exact ⟨s1, V1, HH.out.2.2, .inr ⟨Hnf.out, rfl, xs, by have := HH.out.2.1; rwa [Hcnt.out] at this, HH.out.1⟩⟩
end Go.Proofs.YbulkaigaFmt
