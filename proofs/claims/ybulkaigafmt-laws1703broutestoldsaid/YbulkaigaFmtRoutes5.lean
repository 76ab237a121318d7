import Derived.Test.YbulkaigaFmtRoutesBase
import Derived.Test.YbulkaigaFmtBuild5
import Derived.Test.YbulkaigaFmtRibOther
import Derived.Test.YbulkaigaFmtOrders
import Derived.BigRegion
import Derived.Deep.CutRange
import Derived.Laws.OwnMore
import Derived.Lib.AppendZeros
namespace Go.Proofs.YbulkaigaFmt
open Go.RowKit Go.Extern.Stop Go.Stop Go.Extern

set_option maxRecDepth 100000 in
set_option maxHeartbeats 8000000 in
theorem routes_5 (ap : Bool) (sel seq bits : Int) (f : Nat → Int) (p pa : Option Go.Addr) (cE ca : Nat) (E : List (Nat × List Int)) (l : List Int) (w : World) (hs0 : 0 ≤ sel) (hs1 : sel ≤ 255) (hsel : sel % 6 = 5) (hq0 : 0 ≤ seq) (hq1 : seq ≤ 4294967295) (hb0 : 0 ≤ bits) (hb1 : bits ≤ 255) (hE : EntMem w p E) (hEl : E.length ≤ 300) (hll : l.length ≤ 1024) (hlc : l.length ≤ ca) (hnil : pa = none → ca = 0)
    (hl : ∀ j x, l[j]? = some x → ∃ ba oa, pa = some ⟨ba, oa, none⟩ ∧ w.cell? ⟨ba, oa + j, none⟩ = some (.int .u32 x)) :
    Calls Ybaf.prog 5 #[.int .u8 sel, .bool ap, .int .u32 seq, .int .u8 bits, .agg #[.int .u8 (f 0), .int .u8 (f 1), .int .u8 (f 2), .int .u8 (f 3), .int .u8 (f 4), .int .u8 (f 5), .int .u8 (f 6), .int .u8 (f 7), .int .u8 (f 8), .int .u8 (f 9), .int .u8 (f 10), .int .u8 (f 11), .int .u8 (f 12), .int .u8 (f 13), .int .u8 (f 14), .int .u8 (f 15)], .slice p E.length cE, .slice pa l.length ca] w fun e w' => e = .returned (.bool true) ∧ Below w.heap.size w w' := by
  have HE : Hid (EntMem w p E) := hE
  clear hE
  have t2 : ¬ (300 : Int) < (E.length : Int) := by omega
  have t3 : ¬ (1024 : Int) < (l.length : Int) := by omega
  have HL : Hid (∀ j x, l[j]? = some x → ∃ ba oa, pa = some ⟨ba, oa, none⟩ ∧ w.cell? ⟨ba, oa + j, none⟩ = some (.int .u32 x)) := hl
  clear hl
  obtain ⟨nl, hnl⟩ : ∃ nl, nl = l.length := ⟨_, rfl⟩
  have Hnl : Hid (nl = l.length) := hnl
  rw [← hnl] at hll hlc t3 ⊢
  clear hnl
  have gW := @grown2 w (.cells #[.int .u8 (f 0), .int .u8 (f 1), .int .u8 (f 2), .int .u8 (f 3), .int .u8 (f 4), .int .u8 (f 5), .int .u8 (f 6), .int .u8 (f 7), .int .u8 (f 8), .int .u8 (f 9), .int .u8 (f 10), .int .u8 (f 11), .int .u8 (f 12), .int .u8 (f 13), .int .u8 (f 14), .int .u8 (f 15)] 28) (.cells #[] 27)
  have zW := row_grown (heap_alloc_new w (.cells #[.int .u8 (f 0), .int .u8 (f 1), .int .u8 (f 2), .int .u8 (f 3), .int .u8 (f 4), .int .u8 (f 5), .int .u8 (f 6), .int .u8 (f 7), .int .u8 (f 8), .int .u8 (f 9), .int .u8 (f 10), .int .u8 (f 11), .int .u8 (f 12), .int .u8 (f 13), .int .u8 (f 14), .int .u8 (f 15)] 28)) (World.grownBy_alloc _ (.cells #[] 27) none)
  have z27 := heap_alloc_new (w.alloc (.cells #[.int .u8 (f 0), .int .u8 (f 1), .int .u8 (f 2), .int .u8 (f 3), .int .u8 (f 4), .int .u8 (f 5), .int .u8 (f 6), .int .u8 (f 7), .int .u8 (f 8), .int .u8 (f 9), .int .u8 (f 10), .int .u8 (f 11), .int .u8 (f 12), .int .u8 (f 13), .int .u8 (f 14), .int .u8 (f 15)] 28)) (.cells #[] 27)
  rw [World.size_alloc] at z27
  have o27 : ((w.alloc (.cells #[.int .u8 (f 0), .int .u8 (f 1), .int .u8 (f 2), .int .u8 (f 3), .int .u8 (f 4), .int .u8 (f 5), .int .u8 (f 6), .int .u8 (f 7), .int .u8 (f 8), .int .u8 (f 9), .int .u8 (f 10), .int .u8 (f 11), .int .u8 (f 12), .int .u8 (f 13), .int .u8 (f 14), .int .u8 (f 15)] 28)).alloc (.cells #[] 27)).ownsRow (w.heap.size + 1) 27 1 (.slice (some ⟨w.heap.size + 1, 0, none⟩) 0 0) 0 [] := ⟨rfl, .inr ⟨w.heap.size + 1, 0, #[], rfl, Nat.le_refl _, z27, Nat.le_refl _, by unfold maxLen; omega, rfl, rfl⟩⟩
  go_enter Ybaf.func5, Ybaf.ntmps5
  go_upto_region 3 with fail
  go_cut [15] from 28 to 62 (fun v wx => ∃ pv cv, v = .slice pv nl cv ∧ wx.ownsRow (w.heap.size + 1) 27 1 (.slice pv nl cv) nl (l.map (Value.int .u32)) ∧ w.grownBy wx none ∧ wx.heap[w.heap.size]? = some (.cells #[.int .u8 (f 0), .int .u8 (f 1), .int .u8 (f 2), .int .u8 (f 3), .int .u8 (f 4), .int .u8 (f 5), .int .u8 (f 6), .int .u8 (f 7), .int .u8 (f 8), .int .u8 (f 9), .int .u8 (f 10), .int .u8 (f 11), .int .u8 (f 12), .int .u8 (f 13), .int .u8 (f 14), .int .u8 (f 15)] 28 (0, 0)))
  case first =>
    cases pa with
    | none =>
      obtain rfl : ca = 0 := hnil rfl
      obtain rfl : nl = 0 := by omega
      have hl0 : l = [] := List.eq_nil_of_length_eq_zero Hnl.out.symm
      subst hl0
      have hap := run_append_owned_none (P := Ybaf.prog) ((w.alloc (.cells #[.int .u8 (f 0), .int .u8 (f 1), .int .u8 (f 2), .int .u8 (f 3), .int .u8 (f 4), .int .u8 (f 5), .int .u8 (f 6), .int .u8 (f 7), .int .u8 (f 8), .int .u8 (f 9), .int .u8 (f 10), .int .u8 (f 11), .int .u8 (f 12), .int .u8 (f 13), .int .u8 (f 14), .int .u8 (f 15)] 28)).alloc (.cells #[] 27)) (w.heap.size + 1) 30 30 27 Ybaf.t27 1 Ybaf.underlying30 Ybaf.info27 (.slice (some ⟨w.heap.size + 1, 0, none⟩) 0 0) 0 [] o27
      go_wp2_with (at_builtin; go_must (refine Go.Lib.wpList_append_run _ rfl _ _ _ _ rfl _ _ rfl rfl _ _ hap ?_))
      go_meet
      exact ⟨_, _, rfl, o27, gW, zW⟩
    | some ad =>
      have hnw : ∀ j u, (l.map (Value.int .u32))[j]? = some u → ((w.alloc (.cells #[.int .u8 (f 0), .int .u8 (f 1), .int .u8 (f 2), .int .u8 (f 3), .int .u8 (f 4), .int .u8 (f 5), .int .u8 (f 6), .int .u8 (f 7), .int .u8 (f 8), .int .u8 (f 9), .int .u8 (f 10), .int .u8 (f 11), .int .u8 (f 12), .int .u8 (f 13), .int .u8 (f 14), .int .u8 (f 15)] 28)).alloc (.cells #[] 27)).cell? (ad.add j) = some u := by
        intro j u hj
        rw [List.getElem?_map] at hj
        obtain ⟨x, hx, rfl⟩ := Option.map_eq_some_iff.mp hj
        obtain ⟨ba, oa, e, hc⟩ := HL.out j x hx
        injection e with e
        subst e
        rw [add_off]
        exact gW.cell hc (by simp)
      go_wp2_with (at_builtin; go_must (refine wpList_append_own _ rfl _ _ _ rfl (w.heap.size + 1) 27 Ybaf.t27 (.int .u32 0) 1 4 Ybaf.underlying30 Ybaf.info27 rfl rfl rfl rfl (by omega) (.slice (some ⟨w.heap.size + 1, 0, none⟩) 0 0) 0 [] rfl o27 ad nl ca (l.map (Value.int .u32)) rfl (by rw [List.length_map, ← Hnl.out]; omega) hnw (by intro u hu; obtain ⟨x, _, rfl⟩ := List.mem_map.mp hu; rfl) (by unfold maxLen; omega) (by omega) (by simp) ?_); intro v' w1 o1 g1 _)
      obtain ⟨pv, cv, rfl⟩ := own_shape o1
      rw [Nat.zero_add] at o1 ⊢
      have g1' : ((w.alloc (.cells #[.int .u8 (f 0), .int .u8 (f 1), .int .u8 (f 2), .int .u8 (f 3), .int .u8 (f 4), .int .u8 (f 5), .int .u8 (f 6), .int .u8 (f 7), .int .u8 (f 8), .int .u8 (f 9), .int .u8 (f 10), .int .u8 (f 11), .int .u8 (f 12), .int .u8 (f 13), .int .u8 (f 14), .int .u8 (f 15)] 28)).alloc (.cells #[] 27)).grownBy w1 (some (w.heap.size + 1)) := g1
      have g2 := grown_row gW g1' (by omega)
      have z2 := (g1'.block w.heap.size (Array.getElem?_eq_some_iff.1 zW).1 (by simp only [ne_eq, Option.some.injEq]; omega)).trans zW
      go_meet
      exact ⟨_, _, rfl, by simpa using o1, g2, z2⟩
  case rest =>
    obtain ⟨pv, cv, rfl, oP, gP, zP⟩ := hcut
    clear gW zW z27 o27
    go_upto_if 41 with fail
    go_cut [15] from 28 to 62 (fun v wx => ∃ (gp np cp : Nat) (P : Nat → Int), v = .slice (some ⟨gp, 0, none⟩) np cp ∧ 0 < np ∧ np ≤ 1024 ∧ np ≤ cp ∧ gp < wx.heap.size ∧ w.heap.size < gp ∧ (∀ i, i < np → wx.cell? ⟨gp, i, none⟩ = some (.int .u32 (P i))) ∧ w.grownBy wx none ∧ wx.heap[w.heap.size]? = some (.cells #[.int .u8 (f 0), .int .u8 (f 1), .int .u8 (f 2), .int .u8 (f 3), .int .u8 (f 4), .int .u8 (f 5), .int .u8 (f 6), .int .u8 (f 7), .int .u8 (f 8), .int .u8 (f 9), .int .u8 (f 10), .int .u8 (f 11), .int .u8 (f 12), .int .u8 (f 13), .int .u8 (f 14), .int .u8 (f 15)] 28 (0, 0)))
    case first =>
      by_cases hz : nl = 0
      · have z1 : ((nl : Int) == 0) = true := by simp [hz]
        clear hz
        go_wp2_with fail
        go_meet
        have gA := World.grownBy_alloc wc (.cells #[.int .u32 7] 27) none
        exact ⟨wc.heap.size, 1, 1, fun _ => 7, rfl, by omega, by omega, by omega, by simp, Nat.lt_of_lt_of_le (Array.getElem?_eq_some_iff.1 zP).1 (Nat.le_refl _), fun i hi => by
          have hi0 : i = 0 := by omega
          subst hi0
          rw [cell_of_row _ wc.heap.size 0 _ 27 (0, 0) (heap_alloc_new wc (.cells #[.int .u32 7] 27))]; rfl, grown_then gP gA, row_grown zP gA⟩
      · have z1 : ((nl : Int) == 0) = false := by simp [hz]
        have z2 : ¬ (nl : Int) = 0 := by omega
        obtain ⟨gp, cp, hpv, hcp⟩ := own_some oP (by omega)
        injection hpv with hpv1 _ hpv2
        subst hpv1 hpv2
        go_wp2_with fail
        go_meet
        refine ⟨gp, nl, cv, fun i => l.getD i 0, rfl, by omega, by omega, by omega, (oP.lt gp rfl).2, (oP.lt gp rfl).1, fun i hi => ?_, gP, zP⟩
        have hc := oP.cellAt i (by omega)
        rw [hc, List.getElem?_map, List.getElem?_eq_getElem (by have := Hnl.out; omega)]
        simp [List.getD, List.getElem?_eq_getElem (show i < l.length by have := Hnl.out; omega)]
    case rest =>
      obtain ⟨gp, np, cp, P, rfl, hnp0, hnp1, hncp, hgpl, hgpw, hPc, gC, zC⟩ := hcut
      have HPc : Hid (∀ i, i < np → wc.cell? ⟨gp, i, none⟩ = some (.int .u32 (P i))) := hPc
      have HzC : Hid (wc.heap[w.heap.size]? = some (.cells #[.int .u8 (f 0), .int .u8 (f 1), .int .u8 (f 2), .int .u8 (f 3), .int .u8 (f 4), .int .u8 (f 5), .int .u8 (f 6), .int .u8 (f 7), .int .u8 (f 8), .int .u8 (f 9), .int .u8 (f 10), .int .u8 (f 11), .int .u8 (f 12), .int .u8 (f 13), .int .u8 (f 14), .int .u8 (f 15)] 28 (0, 0))) := zC
      obtain ⟨y0, y1, y2, y3, y4, y5, y6, y7, y8, y9, y10, y11, y12, y13, y14, y15, _⟩ := row16 zC
      clear oP gP zP hPc
      obtain ⟨m, hm⟩ : ∃ m : Nat, (m : Int) = bits % 33 := ⟨(bits % 33).toNat, by omega⟩
      obtain ⟨kk, hkk⟩ : ∃ kk, kk = (m + 7) / 8 := ⟨_, rfl⟩
      have hE1 : EntMem wc p E := HE.out.cells (fun a v h => gC.cell h (by simp))
      have hB := build_5 ap sel seq bits f p cE np E wc hs0 hs1 hsel hq0 hq1 hb0 hb1 hE1 hEl hnp0 (by omega) m hm kk hkk
      have HB : Hid _ := hB
      have Hm : Hid ((m : Int) = bits % 33 ∧ kk = (m + 7) / 8) := ⟨hm, hkk⟩
      clear hB hE1 hm hkk
      go_upto_region 7 with (go_at_call 10; go_must (refine Calls.mono HB.out ?_; rintro e wB ⟨g, n, cap, rfl, hg, oB, gB⟩))
      have hLB := own_lies oB
      have hgl : g < wB.heap.size := (oB.lt g rfl).2
      have hlen := oB.1
      rw [bcells_length] at hlen
      have hncap : n ≤ cap := own_cap oB
      have Hlen : Hid (n = 7 + (1 + kk + (2 + (encAll ap (E.map (entOf np))).length))) := by
        show n = _
        simp [be32, be16] at hlen
        omega
      have gCB := grown_then gC gB
      have hwc : w.heap.size ≤ wc.heap.size := gC.size
      have hwB : wc.heap.size ≤ wB.heap.size := gB.size
      clear oB hlen HB
      have gK := World.grownBy_alloc wB (.cells #[.string ⟨#[102]⟩, .int .u16 0, .int .u8 0, .bool ap] 34) none
      have gV := World.grownBy_alloc (wB.alloc (.cells #[.string ⟨#[102]⟩, .int .u16 0, .int .u8 0, .bool ap] 34)) (.cells #[.int .u64 0, .int .u64 0, .pointer none, .int .u8 0, .slice none 0 0, .int .u32 99, .int .u32 0] 51) none
      have gR := World.grownBy_alloc ((wB.alloc (.cells #[.string ⟨#[102]⟩, .int .u16 0, .int .u8 0, .bool ap] 34)).alloc (.cells #[.int .u64 0, .int .u64 0, .pointer none, .int .u8 0, .slice none 0 0, .int .u32 99, .int .u32 0] 51)) (.cells #[.pointer none, .int .i64 0, .bool false, .int .u8 0, .int .u8 0, .int .u8 0, .int .u8 0, .int .u8 0, .int .u8 0, .int .u8 0, .int .u8 0, .int .u8 0, .int .u8 0, .int .u8 0, .int .u8 0, .slice none 0 0, .slice (some ⟨wB.heap.size + 1, 0, none⟩) 1 1, .slice none 0 0, .slice none 0 0, .slice none 0 0, .int .i64 0, .slice (some ⟨gp, 0, none⟩) np cp] 59) none
      have zK := row_grown (row_grown (heap_alloc_new wB (.cells #[.string ⟨#[102]⟩, .int .u16 0, .int .u8 0, .bool ap] 34)) gV) gR
      have zV := row_grown (heap_alloc_new (wB.alloc (.cells #[.string ⟨#[102]⟩, .int .u16 0, .int .u8 0, .bool ap] 34)) (.cells #[.int .u64 0, .int .u64 0, .pointer none, .int .u8 0, .slice none 0 0, .int .u32 99, .int .u32 0] 51)) gR
      have zR := heap_alloc_new ((wB.alloc (.cells #[.string ⟨#[102]⟩, .int .u16 0, .int .u8 0, .bool ap] 34)).alloc (.cells #[.int .u64 0, .int .u64 0, .pointer none, .int .u8 0, .slice none 0 0, .int .u32 99, .int .u32 0] 51)) (.cells #[.pointer none, .int .i64 0, .bool false, .int .u8 0, .int .u8 0, .int .u8 0, .int .u8 0, .int .u8 0, .int .u8 0, .int .u8 0, .int .u8 0, .int .u8 0, .int .u8 0, .int .u8 0, .int .u8 0, .slice none 0 0, .slice (some ⟨wB.heap.size + 1, 0, none⟩) 1 1, .slice none 0 0, .slice none 0 0, .slice none 0 0, .int .i64 0, .slice (some ⟨gp, 0, none⟩) np cp] 59)
      rw [World.size_alloc] at zV
      rw [World.size_alloc, World.size_alloc] at zR
      have gW := grown_then gK (grown_then gV gR)
      go_upto_region 8 with fail
      obtain ⟨W, hW⟩ : ∃ W, W = (((wB.alloc (.cells #[.string ⟨#[102]⟩, .int .u16 0, .int .u8 0, .bool ap] 34)).alloc (.cells #[.int .u64 0, .int .u64 0, .pointer none, .int .u8 0, .slice none 0 0, .int .u32 99, .int .u32 0] 51)).alloc (.cells #[.pointer none, .int .i64 0, .bool false, .int .u8 0, .int .u8 0, .int .u8 0, .int .u8 0, .int .u8 0, .int .u8 0, .int .u8 0, .int .u8 0, .int .u8 0, .int .u8 0, .int .u8 0, .int .u8 0, .slice none 0 0, .slice (some ⟨wB.heap.size + 1, 0, none⟩) 1 1, .slice none 0 0, .slice none 0 0, .slice none 0 0, .int .i64 0, .slice (some ⟨gp, 0, none⟩) np cp] 59)) := ⟨_, rfl⟩
      rw [← hW] at zK zV zR gW ⊢
      clear hW gK gV gR
      have gAll := grown_then gCB gW
      obtain ⟨k0, k1, k2, k3, _⟩ := row4 zK
      have hes : (E.map (entOf np)).length = E.length := by simp
      have b4 : W.cell? ⟨g, 4, none⟩ = some (.int .u8 0) := gW.cell (hLB 4 _ rfl) (by simp)
      have b5 : W.cell? ⟨g, 4 + 1, none⟩ = some (.int .u8 3) := gW.cell (hLB 5 _ rfl) (by simp)
      have b6 : W.cell? ⟨g, 6, none⟩ = some (.int .u8 1) := gW.cell (hLB 6 _ rfl) (by simp)
      have hN : n ≤ 1000000 := by
        have h1 := encAll_length_le ap (E.map (entOf np)) (by
          intro e he
          obtain ⟨pe, hpe, rfl⟩ := List.mem_map.mp he
          show (pe.2.take 63).length ≤ 63
          rw [List.length_take]
          omega)
        have := Hlen.out
        have := Hm.out.1
        have := Hm.out.2
        rw [hes] at h1
        omega
      have hrib := rib_other (wB.heap.size + 1 + 1) g n cap ⟨#[102]⟩ ap W (by have := Hlen.out; omega) hN hncap (Nat.lt_of_lt_of_le hgl gW.size) b4 b5 b6
      have HR : Hid _ := hrib
      have r16 : W.cell? ⟨wB.heap.size + 1 + 1, 16, none⟩ = some (.slice (some ⟨wB.heap.size + 1, 0, none⟩) 1 1) := (cell_of_row W (wB.heap.size + 1 + 1) 16 _ 59 (0, 0) zR).trans rfl
      have r99 : W.cell? ⟨wB.heap.size + 1, 5, none⟩ = some (.int .u32 99) := (cell_of_row W (wB.heap.size + 1) 5 _ 51 (0, 0) zV).trans rfl
      clear hrib b4 b5 b6 hLB y0 y1 y2 y3 y4 y5 y6 y7 y8 y9 y10 y11 y12 y13 y14 y15 zK zV zR
      go_upto_region 9 with (go_at_call 11; go_must (refine Calls.mono HR.out ?_; rintro e w3 ⟨rfl, g3⟩))
      replace r16 := g3.cell r16 (by simp)
      replace r99 := g3.cell r99 (by simp)
      have hB3 := below_of_grown (Nat.le_refl _) (grown_then gAll g3)
      clear gAll gW gB gC gCB g3 k0 k1 k2 k3 HR HPc HzC HE Hlen Hm HL Hnl hlc
      go_wp2_with fail
      go_ret
      exact ⟨rfl, hB3⟩
end Go.Proofs.YbulkaigaFmt
