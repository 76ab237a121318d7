import Derived.Test.YbulkaieySourcePick
import Derived.WalkSmall
namespace Go.Proofs.Ybulkaiey
open Go.RowKit

theorem cell_block {w : World} {p : Addr} {v : Value} (h : w.cell? p = some v) : p.block < w.heap.size := by
  rcases Nat.lt_or_ge p.block w.heap.size with h1 | h1
  · exact h1
  · simp [World.cell?, Array.getElem?_eq_none h1] at h
theorem cell_keep {w w' : World} {p : Addr} {v : Value} (hb : Below w.heap.size w w') (h : w.cell? p = some v) : w'.cell? p = some v := (hb.cell (cell_block h)).trans h

theorem HostMem.below {w w' : World} {T : Nat → Int} {c : Nat → Nat} {cl a rb cb eb : Nat} {pb : Option Addr} {cap : Nat} (hm : HostMem w T c cl a rb cb eb pb cap) (hb : Below w.heap.size w w') : HostMem w' T c cl a rb cb eb pb cap :=
  ⟨cell_keep hb hm.given, cell_keep hb hm.rows, cell_keep hb hm.chunks, cell_keep hb hm.shift, cell_keep hb hm.ends, cell_keep hb hm.ended, cell_keep hb hm.left, cell_keep hb hm.buf, hm.bufcap, fun k hk => cell_keep hb (hm.endAt k hk),
    fun i x hx => by obtain ⟨bb, e, c0, c1⟩ := hm.ent i x hx; exact ⟨bb, e, cell_keep hb c0, cell_keep hb c1⟩⟩
theorem ExecMem.below {w w' : World} {T : Nat → Int} {c : Nat → Nat} {xb hb cl : Nat} (h : ExecMem w T c xb hb cl) (hB : Below w.heap.size w w') : ExecMem w' T c xb hb cl :=
  ⟨cell_keep hB h.hosts, cell_keep hB h.clocks, fun a ha => by obtain ⟨rb, cb, eb, pb, cap, hm⟩ := h.host a ha; exact ⟨rb, cb, eb, pb, cap, hm.below hB⟩⟩
theorem RowMem.below {w w' : World} {R : List (Nat × Int)} {p : Option Addr} (h : RowMem w R p) (hB : Below w.heap.size w w') : RowMem w' R p :=
  fun i x hx => by obtain ⟨bb, o, e, c0, c1⟩ := h i x hx; exact ⟨bb, o, e, cell_keep hB c0, cell_keep hB c1⟩
theorem TabMem.below {w w' : World} {T : Nat → Int} {tb : Nat} (h : TabMem w T tb) (hB : Below w.heap.size w w') : TabMem w' T tb := fun i hi => cell_keep hB (h i hi)
theorem CntMem.below {w w' : World} {c : Nat → Nat} {nb : Nat} (h : CntMem w c nb) (hB : Below w.heap.size w w') : CntMem w' c nb := fun i hi => cell_keep hB (h i hi)

/-- What stands in a row. -/
theorem row_mem {T : Nat → Int} {h k i : Nat} {e : Nat × Int} (hh : h < 3) (he : (rowL T h k)[i]? = some e) : e.1 < 3 ∧ e.1 ≠ h ∧ e.2 = t3 T h k e.1 ∧ e.2 ≠ 0 := by
  obtain ⟨o1, o2, o3, o4, o5⟩ := oth_lt hh
  rw [rowL_two T h k hh] at he
  have hmem := List.mem_of_getElem? he
  rw [List.mem_append] at hmem
  rcases hmem with hm | hm
  · split at hm
    · next hz => simp at hm; subst hm; exact ⟨by omega, o3, rfl, hz⟩
    · simp at hm
  · split at hm
    · next hz => simp at hm; subst hm; exact ⟨o2, o4, rfl, hz⟩
    · simp at hm

/-- No entry of the row ahead of the i-th knows v: so no host ahead of the i-th entry's does. -/
theorem row_ahead {T : Nat → Int} {c : Nat → Nat} {h k g i : Nat} {v : Int} {e : Nat × Int} (hh : h < 3) (he : (rowL T h k)[i]? = some e) (hf : ∀ y e', y < i → (rowL T h k)[y]? = some e' → clkP T c e'.1 e'.2.toNat g ≠ v) :
    ∀ y, y < e.1 → y ≠ h → hitB T c h k g v y = false := by
  obtain ⟨o1, o2, o3, o4, o5⟩ := oth_lt hh
  intro y hy hyh
  have hm := row_mem hh he
  rcases o5 y (by omega) hyh with e1 | e1
  · by_cases h0 : t3 T h k (oth0 h) = 0
    · subst e1; simp [hitB, h0]
    · have hi : i ≠ 0 := by
        rintro rfl
        rw [rowL_two T h k hh] at he
        simp [h0] at he
        have := congrArg Prod.fst he
        simp at this
        omega
      have h2 : (rowL T h k)[0]? = some (oth0 h, t3 T h k (oth0 h)) := by rw [rowL_two T h k hh]; simp [h0]
      have := hf 0 _ (by omega) h2
      subst e1
      simp [hitB]
      intro _; exact this
  · rcases o5 e.1 hm.1 hm.2.1 with e2 | e2 <;> omega
/-- No entry of the row knows v: so no host does. -/
theorem row_none {T : Nat → Int} {c : Nat → Nat} {h k g : Nat} {v : Int} (hh : h < 3) (hf : ∀ (y : Nat) (e' : Nat × Int), (rowL T h k)[y]? = some e' → clkP T c e'.1 e'.2.toNat g ≠ v) :
    ∀ y, y < 3 → y ≠ h → hitB T c h k g v y = false := by
  obtain ⟨o1, o2, o3, o4, o5⟩ := oth_lt hh
  intro y hy hyh
  by_cases hz : t3 T h k y = 0
  · simp [hitB, hz]
  · have hmem : (y, t3 T h k y) ∈ rowL T h k := by
      rw [rowL_two T h k hh, List.mem_append]
      rcases o5 y hy hyh with rfl | rfl
      · left; simp [hz]
      · right; simp [hz]
    obtain ⟨i, hi⟩ := List.mem_iff_getElem?.1 hmem
    have := hf i _ hi
    simp [hitB]
    intro _; exact this

set_option maxHeartbeats 1000000 in
theorem source_any (w : World) (T : Nat → Int) (c : Nat → Nat) (xb hb cl h j g : Nat) (v : Int) (hx : ExecMem w T c xb hb cl) (hT : ∀ i, 0 ≤ T i ∧ T i ≤ 4) (hh : h < 3) (hg : g < 3) (hc4 : ∀ a, a < 3 → c a ≤ 4) (hj : j + 1 ≤ c h) :
    Calls Yba.prog 4 #[.pointer (some ⟨xb, 0, none⟩), .int .i64 (h : Int), .int .i64 ((j + 1 : Nat) : Int), .int .i64 (g : Int), .int .i64 v] w fun r w' => ∃ A B, r = .returned (.agg #[.int .i64 A, .int .i64 B]) ∧ Res T c h (j + 1) g v A B ∧ Below w.heap.size w w' := by
  have HT : Hid (∀ i, 0 ≤ T i ∧ T i ≤ 4) := hT
  have Hx : Hid (ExecMem (w.alloc (.cells #[.int .i64 0, .int .i64 0] 74)) T c xb hb cl) := hx.below ((Below.refl _ w).alloc (Nat.le_refl _) _)
  have H4 : Hid (∀ a, a < 3 → c a ≤ 4) := hc4
  have hch := hc4 h hh
  clear hx hT hc4
  by_cases h1 : 1 ≤ j ∧ clkP T c h j g = v
  · obtain ⟨hj1, hv⟩ := h1
    have hR : Hid (Res T c h (j + 1) g v (h : Int) (j : Int)) := Or.inl ⟨by omega, by simpa using hv, rfl, by omega⟩
    have Hv : Hid (clkP T c h j g = v) := hv
    clear hv
    go_enter Yba.func4, Yba.ntmps4
    go_wp2_with fail
    refine (entry_any _ T c xb hb cl h j g Hx.out HT.out hh hg (H4.out h hh) hj1).mono ?_
    rintro e w' ⟨rfl, n, rfl⟩
    rw [Hv.out]
    go_wp2_with fail
    exact bodyPost_ret (v := .agg #[.int .i64 (h : Int), .int .i64 (j : Int)]) (by simp [results, Yba.results4, go_sem]) rfl ⟨_, _, rfl, hR.out, ((below_drewN ((Below.refl _ w).alloc (Nat.le_refl _) _) n).setCell (by simp) _).setCell (by simp) _⟩
  · have h1' : Hid (¬ (1 < j + 1 ∧ clkP T c h (j + 1 - 1) g = v)) := fun h2 => h1 ⟨by omega, by simpa using h2.2⟩
    have Hend : Hid (¬ (1 ≤ j ∧ clkP T c h j g = v)) := h1
    clear h1
    obtain ⟨p, cap', hM, hC⟩ := erow_fix _ T c xb hb cl h (j + 1) Hx.out hh hch (by omega)
    have eR : rowC T c h (j + 1) = rowL T h (j + 1) := by unfold rowC; rw [if_pos hj]
    rw [eR] at hM hC
    have ek : ((j + 1 : Nat) : Int) = (j : Int) + 1 := by omega
    rw [ek] at hC
    have Hlen : Hid ((rowL T h (j + 1)).length ≤ 2) := rowL_len T h (j + 1) hh
    generalize hlen : (rowL T h (j + 1)).length = len at hC Hlen
    have Hl : Hid ((rowL T h (j + 1)).length = len) := hlen
    have hl2 : len ≤ 2 := Hlen.out
    have HM : Hid (RowMem (w.alloc (.cells #[.int .i64 0, .int .i64 0] 74)) (rowL T h (j + 1)) p) := hM
    have HC : Hid (∀ m, Calls Yba.prog 7 #[.pointer (some ⟨xb, 0, none⟩), .int .i64 (h : Int), .int .i64 ((j : Int) + 1)] ((w.alloc (.cells #[.int .i64 0, .int .i64 0] 74)).drewN m) fun r w' => r = .returned (.slice p len cap') ∧ ∃ n, w' = (w.alloc (.cells #[.int .i64 0, .int .i64 0] 74)).drewN n) := hC
    clear hM hC eR ek Hlen hlen
    by_cases hj1 : 1 ≤ j
    · have Hv : Hid ((clkP T c h j g == v) = false) := beq_eq_false_iff_ne.2 fun e => Hend.out ⟨hj1, e⟩
      go_enter Yba.func4, Yba.ntmps4
      go_wp2_with fail
      refine (entry_any _ T c xb hb cl h j g Hx.out HT.out hh hg (H4.out h hh) hj1).mono ?_
      rintro e w' ⟨rfl, n, rfl⟩
      have hv := Hv.out
      generalize clkP T c h j g = u at hv ⊢
      go_wp2_with fail
      clear hv Hv
      refine (HC.out n).mono ?_
      rintro e w' ⟨rfl, n2, rfl⟩
      go_wp2_with fail
      go_loopw [34] (fun i wr => ∃ x : Nat, x ≤ len ∧ i = .int .i64 (x : Int) ∧ Below (w.heap.size + 1) (w.alloc (.cells #[.int .i64 0, .int .i64 0] 74)) wr ∧ Hid (∀ (y : Nat) (e' : Nat × Int), y < x → (rowL T h (j + 1))[y]? = some e' → clkP T c e'.1 e'.2.toNat g ≠ v)) (fun i _ => len - (intOf i).toNat)
      case atStart => exact ⟨0, Nat.zero_le _, rfl, below_drewN (Below.refl _ _) _, fun y e' hy => absurd hy (Nat.not_lt_zero _)⟩
      case round =>
        obtain ⟨x, hx, rfl, hB, Hf⟩ := hrel
        have hB' : Hid (Below (w.alloc (.cells #[.int .i64 0, .int .i64 0] 74)).heap.size (w.alloc (.cells #[.int .i64 0, .int .i64 0] 74)) wr) := by show Below _ _ _; simpa using hB
        have hz : w.heap.size < wr.heap.size := by have := hB.size; simp at this; omega
        have hr0 : wr.cell? ⟨w.heap.size, 0, none⟩ = some (.int .i64 0) := (hB.cell (p := ⟨w.heap.size, 0, none⟩) (by simp)).trans (by go_simp)
        have hr1 : wr.cell? ⟨w.heap.size, 1, none⟩ = some (.int .i64 0) := (hB.cell (p := ⟨w.heap.size, 1, none⟩) (by simp)).trans (by go_simp)
        have hf0 : wr.frozen? ⟨w.heap.size, 0, none⟩ = false := (hB.frozen (p := ⟨w.heap.size, 0, none⟩) (by simp)).trans (by go_simp)
        have hf1 : wr.frozen? ⟨w.heap.size, 1, none⟩ = false := (hB.frozen (p := ⟨w.heap.size, 1, none⟩) (by simp)).trans (by go_simp)
        have HBw : Hid (Below w.heap.size w wr) := ((Below.refl _ w).alloc (Nat.le_refl _) _).trans (hB.mono (by omega))
        by_cases hlt : x < len
        · have hlr : x < (rowL T h (j + 1)).length := by have := Hl.out; omega
          obtain ⟨e, He⟩ : ∃ e, Hid ((rowL T h (j + 1))[x]? = some e) := ⟨_, List.getElem?_eq_getElem hlr⟩
          clear hlr
          obtain ⟨m1, m2, m3, m4⟩ := row_mem hh He.out
          obtain ⟨bb, o, rfl, c0, c1⟩ := (HM.out.below hB'.out) x e He.out
          obtain ⟨gg, z⟩ := e
          have hb4 := HT.out (h * 15 + (j + 1) * 3 + gg)
          have M3 : Hid (z = t3 T h (j + 1) gg) := m3
          have z0 : 0 ≤ z := by have := M3.out; unfold t3 at this; omega
          have z4 : z ≤ 4 := by have := M3.out; unfold t3 at this; omega
          clear m3 hb4
          obtain ⟨m, rfl⟩ := Int.eq_ofNat_of_zero_le z0
          have m5 : 1 ≤ m := by simp at m4; omega
          simp only [] at m1 m2 c0 c1
          have Hx2 : Hid (ExecMem wr T c xb hb cl) := Hx.out.below hB'.out
          clear m4 hB
          by_cases hv : clkP T c gg m g = v
          · have HR : Hid (Res T c h (j + 1) g v (gg : Int) (m : Int)) := Or.inr ⟨h1'.out, Or.inl ⟨gg, m1, m2, by simp only [hitB, ← M3.out]; simp [hv]; omega, row_ahead hh He.out Hf.out, rfl, M3.out⟩⟩
            have Hv2 : Hid (clkP T c gg m g = v) := hv
            clear hv
            go_wp2_with fail
            refine (entry_any _ T c xb hb cl gg m g (Hx2.out.below ((Below.refl _ wr).alloc (Nat.le_refl _) _)) HT.out m1 hg (H4.out gg m1) m5).mono ?_
            rintro e w' ⟨rfl, n3, rfl⟩
            rw [Hv2.out]
            go_wp2_with fail
            exact bodyPost_ret (v := .agg #[.int .i64 (gg : Int), .int .i64 (m : Int)]) (by simp [results, Yba.results4, go_sem, hr0, hr1, hz]) rfl ⟨_, _, rfl, HR.out, ((below_drewN (HBw.out.alloc (by omega) _) n3).setCell (by simp) _).setCell (by simp) _⟩
          · have Hv2 : Hid ((clkP T c gg m g == v) = false) := beq_eq_false_iff_ne.2 hv
            have Hnh : Hid (clkP T c gg m g ≠ v) := hv
            clear hv
            go_wp2_with fail
            refine (entry_any _ T c xb hb cl gg m g (Hx2.out.below ((Below.refl _ wr).alloc (Nat.le_refl _) _)) HT.out m1 hg (H4.out gg m1) m5).mono ?_
            rintro e w' ⟨rfl, n3, rfl⟩
            have hv2 := Hv2.out
            generalize clkP T c gg m g = u2 at hv2 ⊢
            go_wp2_with fail
            go_roundw
            case rel =>
              refine ⟨x + 1, by omega, by go_num, below_drewN ((by simpa using hB'.out : Below (w.heap.size + 1) _ wr).alloc (by omega) _) n3, fun y e' hy he' => ?_⟩
              by_cases hyx : y = x
              · subst hyx
                obtain rfl := Option.some.inj (He.out.symm.trans he')
                exact Hnh.out
              · exact Hf.out y e' (by omega) he'
            case measure => simp [intOf]; omega
        · have HR : Hid (Res T c h (j + 1) g v 0 0) := Or.inr ⟨h1'.out, Or.inr ⟨row_none hh (fun y e' he' => Hf.out y e' (by have := (List.getElem?_eq_some_iff.1 he').1; have := Hl.out; omega) he'), rfl, rfl⟩⟩
          go_wp2_with fail
          exact bodyPost_ret (v := .agg #[.int .i64 0, .int .i64 0]) (by simp [results, Yba.results4, go_sem, hr0, hr1]) rfl ⟨_, _, rfl, HR.out, (HBw.out.setCell (by simp) _).setCell (by simp) _⟩
    · go_enter Yba.func4, Yba.ntmps4
      go_wp2_with fail
      refine (HC.out 0).mono ?_
      rintro e w' ⟨rfl, n2, rfl⟩
      go_wp2_with fail
      go_loopw [34] (fun i wr => ∃ x : Nat, x ≤ len ∧ i = .int .i64 (x : Int) ∧ Below (w.heap.size + 1) (w.alloc (.cells #[.int .i64 0, .int .i64 0] 74)) wr ∧ Hid (∀ (y : Nat) (e' : Nat × Int), y < x → (rowL T h (j + 1))[y]? = some e' → clkP T c e'.1 e'.2.toNat g ≠ v)) (fun i _ => len - (intOf i).toNat)
      case atStart => exact ⟨0, Nat.zero_le _, rfl, below_drewN (Below.refl _ _) _, fun y e' hy => absurd hy (Nat.not_lt_zero _)⟩
      case round =>
        obtain ⟨x, hx, rfl, hB, Hf⟩ := hrel
        have hB' : Hid (Below (w.alloc (.cells #[.int .i64 0, .int .i64 0] 74)).heap.size (w.alloc (.cells #[.int .i64 0, .int .i64 0] 74)) wr) := by show Below _ _ _; simpa using hB
        have hz : w.heap.size < wr.heap.size := by have := hB.size; simp at this; omega
        have hr0 : wr.cell? ⟨w.heap.size, 0, none⟩ = some (.int .i64 0) := (hB.cell (p := ⟨w.heap.size, 0, none⟩) (by simp)).trans (by go_simp)
        have hr1 : wr.cell? ⟨w.heap.size, 1, none⟩ = some (.int .i64 0) := (hB.cell (p := ⟨w.heap.size, 1, none⟩) (by simp)).trans (by go_simp)
        have hf0 : wr.frozen? ⟨w.heap.size, 0, none⟩ = false := (hB.frozen (p := ⟨w.heap.size, 0, none⟩) (by simp)).trans (by go_simp)
        have hf1 : wr.frozen? ⟨w.heap.size, 1, none⟩ = false := (hB.frozen (p := ⟨w.heap.size, 1, none⟩) (by simp)).trans (by go_simp)
        have HBw : Hid (Below w.heap.size w wr) := ((Below.refl _ w).alloc (Nat.le_refl _) _).trans (hB.mono (by omega))
        by_cases hlt : x < len
        · have hlr : x < (rowL T h (j + 1)).length := by have := Hl.out; omega
          obtain ⟨e, He⟩ : ∃ e, Hid ((rowL T h (j + 1))[x]? = some e) := ⟨_, List.getElem?_eq_getElem hlr⟩
          clear hlr
          obtain ⟨m1, m2, m3, m4⟩ := row_mem hh He.out
          obtain ⟨bb, o, rfl, c0, c1⟩ := (HM.out.below hB'.out) x e He.out
          obtain ⟨gg, z⟩ := e
          have hb4 := HT.out (h * 15 + (j + 1) * 3 + gg)
          have M3 : Hid (z = t3 T h (j + 1) gg) := m3
          have z0 : 0 ≤ z := by have := M3.out; unfold t3 at this; omega
          have z4 : z ≤ 4 := by have := M3.out; unfold t3 at this; omega
          clear m3 hb4
          obtain ⟨m, rfl⟩ := Int.eq_ofNat_of_zero_le z0
          have m5 : 1 ≤ m := by simp at m4; omega
          simp only [] at m1 m2 c0 c1
          have Hx2 : Hid (ExecMem wr T c xb hb cl) := Hx.out.below hB'.out
          clear m4 hB
          by_cases hv : clkP T c gg m g = v
          · have HR : Hid (Res T c h (j + 1) g v (gg : Int) (m : Int)) := Or.inr ⟨h1'.out, Or.inl ⟨gg, m1, m2, by simp only [hitB, ← M3.out]; simp [hv]; omega, row_ahead hh He.out Hf.out, rfl, M3.out⟩⟩
            have Hv2 : Hid (clkP T c gg m g = v) := hv
            clear hv
            go_wp2_with fail
            refine (entry_any _ T c xb hb cl gg m g (Hx2.out.below ((Below.refl _ wr).alloc (Nat.le_refl _) _)) HT.out m1 hg (H4.out gg m1) m5).mono ?_
            rintro e w' ⟨rfl, n3, rfl⟩
            rw [Hv2.out]
            go_wp2_with fail
            exact bodyPost_ret (v := .agg #[.int .i64 (gg : Int), .int .i64 (m : Int)]) (by simp [results, Yba.results4, go_sem, hr0, hr1, hz]) rfl ⟨_, _, rfl, HR.out, ((below_drewN (HBw.out.alloc (by omega) _) n3).setCell (by simp) _).setCell (by simp) _⟩
          · have Hv2 : Hid ((clkP T c gg m g == v) = false) := beq_eq_false_iff_ne.2 hv
            have Hnh : Hid (clkP T c gg m g ≠ v) := hv
            clear hv
            go_wp2_with fail
            refine (entry_any _ T c xb hb cl gg m g (Hx2.out.below ((Below.refl _ wr).alloc (Nat.le_refl _) _)) HT.out m1 hg (H4.out gg m1) m5).mono ?_
            rintro e w' ⟨rfl, n3, rfl⟩
            have hv2 := Hv2.out
            generalize clkP T c gg m g = u2 at hv2 ⊢
            go_wp2_with fail
            go_roundw
            case rel =>
              refine ⟨x + 1, by omega, by go_num, below_drewN ((by simpa using hB'.out : Below (w.heap.size + 1) _ wr).alloc (by omega) _) n3, fun y e' hy he' => ?_⟩
              by_cases hyx : y = x
              · subst hyx
                obtain rfl := Option.some.inj (He.out.symm.trans he')
                exact Hnh.out
              · exact Hf.out y e' (by omega) he'
            case measure => simp [intOf]; omega
        · have HR : Hid (Res T c h (j + 1) g v 0 0) := Or.inr ⟨h1'.out, Or.inr ⟨row_none hh (fun y e' he' => Hf.out y e' (by have := (List.getElem?_eq_some_iff.1 he').1; have := Hl.out; omega) he'), rfl, rfl⟩⟩
          go_wp2_with fail
          exact bodyPost_ret (v := .agg #[.int .i64 0, .int .i64 0]) (by simp [results, Yba.results4, go_sem, hr0, hr1]) rfl ⟨_, _, rfl, HR.out, (HBw.out.setCell (by simp) _).setCell (by simp) _⟩
end Go.Proofs.Ybulkaiey
