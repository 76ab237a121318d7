import Derived.Test.YbulkaieySourceEntry
namespace Go.Proofs.Ybulkaiey
open Go.RowKit

def TabMem (w : World) (T : Nat → Int) (tb : Nat) : Prop := ∀ i, i < 45 → w.cell? ⟨tb, i, none⟩ = some (.int .i64 (T i))
def CntMem (w : World) (c : Nat → Nat) (nb : Nat) : Prop := ∀ a, a < 3 → w.cell? ⟨nb, a, none⟩ = some (.int .i64 (c a : Int))

set_option maxHeartbeats 1000000 in
theorem clk_any (w : World) (T : Nat → Int) (c : Nat → Nat) (tb nb a k g : Nat) (ht : TabMem w T tb) (hn : CntMem w c nb) (ha : a < 3) (hg : g < 3) (hc4 : c a ≤ 4) (hk1 : 1 ≤ k) (hk9 : k ≤ 9) :
    Calls Yba.prog 8 #[.pointer (some ⟨tb, 0, none⟩), .pointer (some ⟨nb, 0, none⟩), .int .i64 (a : Int), .int .i64 (k : Int), .int .i64 (g : Int)] w fun r w' => r = .returned (.int .i64 (clkP T c a k g)) ∧ w' = w := by
  have h1 := hn a ha
  by_cases hk : k ≤ c a
  · by_cases hga : g = a
    · have e : clkP T c a k g = (k : Int) := by unfold clkP; rw [if_neg (by omega), if_pos hga]
      rw [e]
      have hb : ((g : Int) == (a : Int)) = true := beq_iff_eq.2 (by omega)
      clear e hga
      go_enter Yba.func8, Yba.ntmps8
      go_wp2
      go_ret
      exact ⟨rfl, rfl⟩
    · have e : clkP T c a k g = t3 T a k g := by unfold clkP; rw [if_neg (by omega), if_neg hga]
      rw [e]
      have hb : ((g : Int) == (a : Int)) = false := beq_eq_false_iff_ne.2 (by omega)
      have h2 : w.cell? ⟨tb, a * 15 + k * 3 + g, none⟩ = some (.int .i64 (t3 T a k g)) := ht _ (by omega)
      generalize t3 T a k g = v at h2 ⊢
      clear e hga
      go_enter Yba.func8, Yba.ntmps8
      go_wp2
      go_ret
      exact ⟨rfl, rfl⟩
  · have e : clkP T c a k g = 0 := by unfold clkP; rw [if_pos (by omega)]
    rw [e]
    clear e
    go_enter Yba.func8, Yba.ntmps8
    go_wp2
    go_ret
    exact ⟨rfl, rfl⟩

set_option maxHeartbeats 1000000 in
theorem model_any (w : World) (T : Nat → Int) (c : Nat → Nat) (tb nb h j g : Nat) (v : Int) (ht : TabMem w T tb) (hn : CntMem w c nb) (hT : ∀ i, 0 ≤ T i ∧ T i ≤ 4) (htb : tb < w.heap.size) (hnb : nb < w.heap.size)
    (hh : h < 3) (hg : g < 3) (hc4 : ∀ a, a < 3 → c a ≤ 4) (hj : j + 1 ≤ c h) :
    Calls Yba.prog 5 #[.pointer (some ⟨tb, 0, none⟩), .pointer (some ⟨nb, 0, none⟩), .int .i64 (h : Int), .int .i64 ((j + 1 : Nat) : Int), .int .i64 (g : Int), .int .i64 v] w fun r w' => ∃ A B, r = .returned (.agg #[.int .i64 A, .int .i64 B]) ∧ Res T c h (j + 1) g v A B ∧ Below w.heap.size w w' := by
  have ht' : ∀ o, TabMem (w.alloc o) T tb := fun o i hi => (((Below.refl _ w).alloc (Nat.le_refl _) o).cell (p := ⟨tb, i, none⟩) htb).trans (ht i hi)
  have hn' : ∀ o, CntMem (w.alloc o) c nb := fun o i hi => (((Below.refl _ w).alloc (Nat.le_refl _) o).cell (p := ⟨nb, i, none⟩) hnb).trans (hn i hi)
  have HT : Hid (∀ i, 0 ≤ T i ∧ T i ≤ 4) := hT
  have Ht : Hid (∀ o, TabMem (w.alloc o) T tb) := ht'
  have Hn : Hid (∀ o, CntMem (w.alloc o) c nb) := hn'
  have H4 : Hid (∀ a, a < 3 → c a ≤ 4) := hc4
  have hch := hc4 h hh
  clear ht hn hT ht' hn' hc4
  by_cases h1 : 1 ≤ j ∧ clkP T c h j g = v
  · obtain ⟨hj1, hv⟩ := h1
    have hR : Hid (Res T c h (j + 1) g v (h : Int) (j : Int)) := Or.inl ⟨by omega, by simpa using hv, rfl, by omega⟩
    have Hv : Hid (clkP T c h j g = v) := hv
    clear hv
    go_enter Yba.func5, Yba.ntmps5
    go_wp2_with fail
    refine (clk_any _ T c tb nb h j g (Ht.out _) (Hn.out _) hh hg (H4.out h hh) hj1 (by omega)).mono ?_
    rintro e w' ⟨rfl, rfl⟩
    rw [Hv.out]
    go_wp2_with fail
    exact bodyPost_ret (v := .agg #[.int .i64 (h : Int), .int .i64 (j : Int)]) (by simp [results, Yba.results5, go_sem]) rfl ⟨_, _, rfl, hR.out, (Below.refl _ w).alloc (Nat.le_refl _) _⟩
  · have h1' : Hid (¬ (1 < j + 1 ∧ clkP T c h (j + 1 - 1) g = v)) := fun h2 => h1 ⟨by omega, by simpa using h2.2⟩
    have Hend : Hid (¬ (1 ≤ j ∧ clkP T c h j g = v)) := h1
    clear h1
    by_cases hj1 : 1 ≤ j
    · have Hv : Hid ((clkP T c h j g == v) = false) := beq_eq_false_iff_ne.2 fun e => Hend.out ⟨hj1, e⟩
      go_enter Yba.func5, Yba.ntmps5
      go_wp2_with fail
      refine (clk_any _ T c tb nb h j g (Ht.out _) (Hn.out _) hh hg (H4.out h hh) hj1 (by omega)).mono ?_
      rintro e w' ⟨rfl, rfl⟩
      have hv := Hv.out
      generalize clkP T c h j g = u at hv ⊢
      go_wp2_with fail
      clear hv Hv
      go_loop [13] (fun i => ∃ x : Nat, x ≤ 3 ∧ i = .int .i64 (x : Int) ∧ Hid (∀ y, y < x → y ≠ h → hitB T c h (j + 1) g v y = false)) (fun i => 3 - (intOf i).toNat)
      case atStart => exact ⟨0, Nat.zero_le _, rfl, fun y hy => absurd hy (Nat.not_lt_zero _)⟩
      case round =>
        obtain ⟨x, hx, rfl, Hf⟩ := hrel
        by_cases hlt : x < 3
        · by_cases hxh : x = h
          · have hb : ((x : Int) == (h : Int)) = true := beq_iff_eq.2 (by omega)
            have Hxh : Hid (x = h) := hxh
            clear hxh
            go_wp2_with fail
            go_round
            case rel =>
              refine ⟨x + 1, by omega, by go_num, fun y hy hyh => ?_⟩
              exact Hf.out y (by have := Hxh.out; omega) hyh
            case measure => simp [intOf]; omega
          · have hb : ((x : Int) == (h : Int)) = false := beq_eq_false_iff_ne.2 (by omega)
            have Hxh : Hid (x ≠ h) := hxh
            clear hxh
            have hcell : (w.alloc (.cells #[.int .i64 0, .int .i64 0] 74)).cell? ⟨tb, h * 15 + (j + 1) * 3 + x, none⟩ = some (.int .i64 (t3 T h (j + 1) x)) := Ht.out _ _ (by omega)
            obtain ⟨b0, b4⟩ := HT.out (h * 15 + (j + 1) * 3 + x)
            change 0 ≤ t3 T h (j + 1) x at b0
            change t3 T h (j + 1) x ≤ 4 at b4
            have Hhit : Hid (hitB T c h (j + 1) g v x = decide (t3 T h (j + 1) x ≠ 0 ∧ clkP T c x (t3 T h (j + 1) x).toNat g = v)) := rfl
            have HB : Hid (t3 T h (j + 1) x = t3 T h (j + 1) x) := rfl
            generalize ht3 : t3 T h (j + 1) x = z at hcell b0 b4 Hhit
            have Hz : Hid (t3 T h (j + 1) x = z) := ht3
            clear ht3 HB
            obtain ⟨m, rfl⟩ := Int.eq_ofNat_of_zero_le b0
            by_cases hm0 : m = 0
            · subst hm0
              go_wp2_with fail
              go_round
              case rel =>
                refine ⟨x + 1, by omega, by go_num, fun y hy hyh => ?_⟩
                by_cases hyx : y = x
                · subst hyx; rw [Hhit.out]; simp
                · exact Hf.out y (by omega) hyh
              case measure => simp [intOf]; omega
            · have hmb : ((m : Int) == 0) = false := beq_eq_false_iff_ne.2 (by omega)
              by_cases hv : clkP T c x m g = v
              · have HR : Hid (Res T c h (j + 1) g v (x : Int) (m : Int)) := Or.inr ⟨h1'.out, Or.inl ⟨x, hlt, Hxh.out, by rw [Hhit.out]; simp [hv]; omega, Hf.out, rfl, Hz.out.symm⟩⟩
                have Hv : Hid (clkP T c x m g = v) := hv
                clear hv
                go_wp2_with fail
                refine (clk_any _ T c tb nb x m g (Ht.out _) (Hn.out _) hlt hg (H4.out x hlt) (by omega) (by omega)).mono ?_
                rintro e w' ⟨rfl, rfl⟩
                rw [Hv.out]
                go_wp2_with fail
                exact bodyPost_ret (v := .agg #[.int .i64 (x : Int), .int .i64 (m : Int)]) (by simp [results, Yba.results5, go_sem]) rfl ⟨_, _, rfl, HR.out, (Below.refl _ w).alloc (Nat.le_refl _) _⟩
              · have Hv : Hid ((clkP T c x m g == v) = false) := beq_eq_false_iff_ne.2 hv
                have Hnh : Hid (hitB T c h (j + 1) g v x = false) := by show _ = _; rw [Hhit.out]; simp [hv]
                clear hv
                go_wp2_with fail
                refine (clk_any _ T c tb nb x m g (Ht.out _) (Hn.out _) hlt hg (H4.out x hlt) (by omega) (by omega)).mono ?_
                rintro e w' ⟨rfl, rfl⟩
                have hv := Hv.out
                generalize clkP T c x m g = u2 at hv ⊢
                go_wp2_with fail
                go_round
                case rel =>
                  refine ⟨x + 1, by omega, by go_num, fun y hy hyh => ?_⟩
                  by_cases hyx : y = x
                  · subst hyx; exact Hnh.out
                  · exact Hf.out y (by omega) hyh
                case measure => simp [intOf]; omega
        · have HR : Hid (Res T c h (j + 1) g v 0 0) := Or.inr ⟨h1'.out, Or.inr ⟨fun y hy hyh => Hf.out y (by omega) hyh, rfl, rfl⟩⟩
          go_wp2_with fail
          exact bodyPost_ret (v := .agg #[.int .i64 0, .int .i64 0]) (by simp [results, Yba.results5, go_sem]) rfl ⟨_, _, rfl, HR.out, (Below.refl _ w).alloc (Nat.le_refl _) _⟩
    · go_enter Yba.func5, Yba.ntmps5
      go_wp2_with fail
      go_loop [13] (fun i => ∃ x : Nat, x ≤ 3 ∧ i = .int .i64 (x : Int) ∧ Hid (∀ y, y < x → y ≠ h → hitB T c h (j + 1) g v y = false)) (fun i => 3 - (intOf i).toNat)
      case atStart => exact ⟨0, Nat.zero_le _, rfl, fun y hy => absurd hy (Nat.not_lt_zero _)⟩
      case round =>
        obtain ⟨x, hx, rfl, Hf⟩ := hrel
        by_cases hlt : x < 3
        · by_cases hxh : x = h
          · have hb : ((x : Int) == (h : Int)) = true := beq_iff_eq.2 (by omega)
            have Hxh : Hid (x = h) := hxh
            clear hxh
            go_wp2_with fail
            go_round
            case rel =>
              refine ⟨x + 1, by omega, by go_num, fun y hy hyh => ?_⟩
              exact Hf.out y (by have := Hxh.out; omega) hyh
            case measure => simp [intOf]; omega
          · have hb : ((x : Int) == (h : Int)) = false := beq_eq_false_iff_ne.2 (by omega)
            have Hxh : Hid (x ≠ h) := hxh
            clear hxh
            have hcell : (w.alloc (.cells #[.int .i64 0, .int .i64 0] 74)).cell? ⟨tb, h * 15 + (j + 1) * 3 + x, none⟩ = some (.int .i64 (t3 T h (j + 1) x)) := Ht.out _ _ (by omega)
            obtain ⟨b0, b4⟩ := HT.out (h * 15 + (j + 1) * 3 + x)
            change 0 ≤ t3 T h (j + 1) x at b0
            change t3 T h (j + 1) x ≤ 4 at b4
            have Hhit : Hid (hitB T c h (j + 1) g v x = decide (t3 T h (j + 1) x ≠ 0 ∧ clkP T c x (t3 T h (j + 1) x).toNat g = v)) := rfl
            have HB : Hid (t3 T h (j + 1) x = t3 T h (j + 1) x) := rfl
            generalize ht3 : t3 T h (j + 1) x = z at hcell b0 b4 Hhit
            have Hz : Hid (t3 T h (j + 1) x = z) := ht3
            clear ht3 HB
            obtain ⟨m, rfl⟩ := Int.eq_ofNat_of_zero_le b0
            by_cases hm0 : m = 0
            · subst hm0
              go_wp2_with fail
              go_round
              case rel =>
                refine ⟨x + 1, by omega, by go_num, fun y hy hyh => ?_⟩
                by_cases hyx : y = x
                · subst hyx; rw [Hhit.out]; simp
                · exact Hf.out y (by omega) hyh
              case measure => simp [intOf]; omega
            · have hmb : ((m : Int) == 0) = false := beq_eq_false_iff_ne.2 (by omega)
              by_cases hv : clkP T c x m g = v
              · have HR : Hid (Res T c h (j + 1) g v (x : Int) (m : Int)) := Or.inr ⟨h1'.out, Or.inl ⟨x, hlt, Hxh.out, by rw [Hhit.out]; simp [hv]; omega, Hf.out, rfl, Hz.out.symm⟩⟩
                have Hv : Hid (clkP T c x m g = v) := hv
                clear hv
                go_wp2_with fail
                refine (clk_any _ T c tb nb x m g (Ht.out _) (Hn.out _) hlt hg (H4.out x hlt) (by omega) (by omega)).mono ?_
                rintro e w' ⟨rfl, rfl⟩
                rw [Hv.out]
                go_wp2_with fail
                exact bodyPost_ret (v := .agg #[.int .i64 (x : Int), .int .i64 (m : Int)]) (by simp [results, Yba.results5, go_sem]) rfl ⟨_, _, rfl, HR.out, (Below.refl _ w).alloc (Nat.le_refl _) _⟩
              · have Hv : Hid ((clkP T c x m g == v) = false) := beq_eq_false_iff_ne.2 hv
                have Hnh : Hid (hitB T c h (j + 1) g v x = false) := by show _ = _; rw [Hhit.out]; simp [hv]
                clear hv
                go_wp2_with fail
                refine (clk_any _ T c tb nb x m g (Ht.out _) (Hn.out _) hlt hg (H4.out x hlt) (by omega) (by omega)).mono ?_
                rintro e w' ⟨rfl, rfl⟩
                have hv := Hv.out
                generalize clkP T c x m g = u2 at hv ⊢
                go_wp2_with fail
                go_round
                case rel =>
                  refine ⟨x + 1, by omega, by go_num, fun y hy hyh => ?_⟩
                  by_cases hyx : y = x
                  · subst hyx; exact Hnh.out
                  · exact Hf.out y (by omega) hyh
                case measure => simp [intOf]; omega
        · have HR : Hid (Res T c h (j + 1) g v 0 0) := Or.inr ⟨h1'.out, Or.inr ⟨fun y hy hyh => Hf.out y (by omega) hyh, rfl, rfl⟩⟩
          go_wp2_with fail
          exact bodyPost_ret (v := .agg #[.int .i64 0, .int .i64 0]) (by simp [results, Yba.results5, go_sem]) rfl ⟨_, _, rfl, HR.out, (Below.refl _ w).alloc (Nat.le_refl _) _⟩
end Go.Proofs.Ybulkaiey
