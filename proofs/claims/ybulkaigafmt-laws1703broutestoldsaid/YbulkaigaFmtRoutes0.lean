import Derived.Test.YbulkaigaFmtRoutesBase
import Derived.Test.YbulkaigaFmtBuild0
import Derived.Test.YbulkaigaFmtRib
import Derived.Test.YbulkaigaFmtOrders
import Derived.BigRegion
import Derived.Deep.CutRange
import Derived.Laws.OwnMore
import Derived.Lib.AppendZeros
namespace Go.Proofs.YbulkaigaFmt
open Go.RowKit Go.Extern.Stop Go.Stop Go.Extern

set_option maxRecDepth 100000 in
set_option maxHeartbeats 8000000 in
theorem routes_0 (F : Interp) (a4 a6 : Go.Addr) (ap : Bool) (sel seq bits : Int) (f : Nat → Int) (p pa : Option Go.Addr) (cE ca : Nat) (E : List (Nat × List Int)) (l : List Int) (w : World) (hF : F.answers w.tape) (hM : Marks w a4 a6) (hs0 : 0 ≤ sel) (hs1 : sel ≤ 255) (hsel : sel % 6 = 0) (hq0 : 0 ≤ seq) (hq1 : seq ≤ 4294967295) (hb0 : 0 ≤ bits) (hb1 : bits ≤ 255) (hf : ∀ i, 0 ≤ f i ∧ f i ≤ 255) (hE : EntMem w p E) (hEl : E.length ≤ 300) (hll : l.length ≤ 1024) (hlc : l.length ≤ ca) (hnil : pa = none → ca = 0)
    (hl : ∀ j x, l[j]? = some x → ∃ ba oa, pa = some ⟨ba, oa, none⟩ ∧ w.cell? ⟨ba, oa + j, none⟩ = some (.int .u32 x)) :
    Calls Ybaf.prog 5 #[.int .u8 sel, .bool ap, .int .u32 seq, .int .u8 bits, .agg #[.int .u8 (f 0), .int .u8 (f 1), .int .u8 (f 2), .int .u8 (f 3), .int .u8 (f 4), .int .u8 (f 5), .int .u8 (f 6), .int .u8 (f 7), .int .u8 (f 8), .int .u8 (f 9), .int .u8 (f 10), .int .u8 (f 11), .int .u8 (f 12), .int .u8 (f 13), .int .u8 (f 14), .int .u8 (f 15)], .slice p E.length cE, .slice pa l.length ca] w fun e w' => e = .returned (.bool true) ∧ Below w.heap.size w w' := by
  have HE : Hid (EntMem w p E) := hE
  clear hE
  have t2 : ¬ (300 : Int) < (E.length : Int) := by omega
  have t3 : ¬ (1024 : Int) < (l.length : Int) := by omega
  have HL : Hid (∀ j x, l[j]? = some x → ∃ ba oa, pa = some ⟨ba, oa, none⟩ ∧ w.cell? ⟨ba, oa + j, none⟩ = some (.int .u32 x)) := hl
  clear hl
  obtain ⟨nl, hnl⟩ : ∃ nl, nl = l.length := ⟨_, rfl⟩
  have Hnl : Hid (nl = l.length) := hnl
  rw [← hnl] at hll hlc t3 ⊢
  clear hnl
  have gW := @grown2 w (.cells #[.int .u8 (f 0), .int .u8 (f 1), .int .u8 (f 2), .int .u8 (f 3), .int .u8 (f 4), .int .u8 (f 5), .int .u8 (f 6), .int .u8 (f 7), .int .u8 (f 8), .int .u8 (f 9), .int .u8 (f 10), .int .u8 (f 11), .int .u8 (f 12), .int .u8 (f 13), .int .u8 (f 14), .int .u8 (f 15)] 28) (.cells #[] 27)
  have zW := row_grown (heap_alloc_new w (.cells #[.int .u8 (f 0), .int .u8 (f 1), .int .u8 (f 2), .int .u8 (f 3), .int .u8 (f 4), .int .u8 (f 5), .int .u8 (f 6), .int .u8 (f 7), .int .u8 (f 8), .int .u8 (f 9), .int .u8 (f 10), .int .u8 (f 11), .int .u8 (f 12), .int .u8 (f 13), .int .u8 (f 14), .int .u8 (f 15)] 28)) (World.grownBy_alloc _ (.cells #[] 27) none)
  have z27 := heap_alloc_new (w.alloc (.cells #[.int .u8 (f 0), .int .u8 (f 1), .int .u8 (f 2), .int .u8 (f 3), .int .u8 (f 4), .int .u8 (f 5), .int .u8 (f 6), .int .u8 (f 7), .int .u8 (f 8), .int .u8 (f 9), .int .u8 (f 10), .int .u8 (f 11), .int .u8 (f 12), .int .u8 (f 13), .int .u8 (f 14), .int .u8 (f 15)] 28)) (.cells #[] 27)
  rw [World.size_alloc] at z27
  have o27 : ((w.alloc (.cells #[.int .u8 (f 0), .int .u8 (f 1), .int .u8 (f 2), .int .u8 (f 3), .int .u8 (f 4), .int .u8 (f 5), .int .u8 (f 6), .int .u8 (f 7), .int .u8 (f 8), .int .u8 (f 9), .int .u8 (f 10), .int .u8 (f 11), .int .u8 (f 12), .int .u8 (f 13), .int .u8 (f 14), .int .u8 (f 15)] 28)).alloc (.cells #[] 27)).ownsRow (w.heap.size + 1) 27 1 (.slice (some ⟨w.heap.size + 1, 0, none⟩) 0 0) 0 [] := ⟨rfl, .inr ⟨w.heap.size + 1, 0, #[], rfl, Nat.le_refl _, z27, Nat.le_refl _, by unfold maxLen; omega, rfl, rfl⟩⟩
  go_enter Ybaf.func5, Ybaf.ntmps5
  go_upto_region 3 with fail
  go_cut [15] from 28 to 62 (fun v wx => ∃ pv cv, v = .slice pv nl cv ∧ wx.ownsRow (w.heap.size + 1) 27 1 (.slice pv nl cv) nl (l.map (Value.int .u32)) ∧ w.grownBy wx none ∧ wx.heap[w.heap.size]? = some (.cells #[.int .u8 (f 0), .int .u8 (f 1), .int .u8 (f 2), .int .u8 (f 3), .int .u8 (f 4), .int .u8 (f 5), .int .u8 (f 6), .int .u8 (f 7), .int .u8 (f 8), .int .u8 (f 9), .int .u8 (f 10), .int .u8 (f 11), .int .u8 (f 12), .int .u8 (f 13), .int .u8 (f 14), .int .u8 (f 15)] 28 (0, 0)))
  case first =>
    cases pa with
    | none =>
      obtain rfl : ca = 0 := hnil rfl
      obtain rfl : nl = 0 := by omega
      have hl0 : l = [] := List.eq_nil_of_length_eq_zero Hnl.out.symm
      subst hl0
      have hap := run_append_owned_none (P := Ybaf.prog) ((w.alloc (.cells #[.int .u8 (f 0), .int .u8 (f 1), .int .u8 (f 2), .int .u8 (f 3), .int .u8 (f 4), .int .u8 (f 5), .int .u8 (f 6), .int .u8 (f 7), .int .u8 (f 8), .int .u8 (f 9), .int .u8 (f 10), .int .u8 (f 11), .int .u8 (f 12), .int .u8 (f 13), .int .u8 (f 14), .int .u8 (f 15)] 28)).alloc (.cells #[] 27)) (w.heap.size + 1) 30 30 27 Ybaf.t27 1 Ybaf.underlying30 Ybaf.info27 (.slice (some ⟨w.heap.size + 1, 0, none⟩) 0 0) 0 [] o27
      go_wp2_with (at_builtin; go_must (refine Go.Lib.wpList_append_run _ rfl _ _ _ _ rfl _ _ rfl rfl _ _ hap ?_))
      go_meet
      exact ⟨_, _, rfl, o27, gW, zW⟩
    | some ad =>
      have hnw : ∀ j u, (l.map (Value.int .u32))[j]? = some u → ((w.alloc (.cells #[.int .u8 (f 0), .int .u8 (f 1), .int .u8 (f 2), .int .u8 (f 3), .int .u8 (f 4), .int .u8 (f 5), .int .u8 (f 6), .int .u8 (f 7), .int .u8 (f 8), .int .u8 (f 9), .int .u8 (f 10), .int .u8 (f 11), .int .u8 (f 12), .int .u8 (f 13), .int .u8 (f 14), .int .u8 (f 15)] 28)).alloc (.cells #[] 27)).cell? (ad.add j) = some u := by
        intro j u hj
        rw [List.getElem?_map] at hj
        obtain ⟨x, hx, rfl⟩ := Option.map_eq_some_iff.mp hj
        obtain ⟨ba, oa, e, hc⟩ := HL.out j x hx
        injection e with e
        subst e
        rw [add_off]
        exact gW.cell hc (by simp)
      go_wp2_with (at_builtin; go_must (refine wpList_append_own _ rfl _ _ _ rfl (w.heap.size + 1) 27 Ybaf.t27 (.int .u32 0) 1 4 Ybaf.underlying30 Ybaf.info27 rfl rfl rfl rfl (by omega) (.slice (some ⟨w.heap.size + 1, 0, none⟩) 0 0) 0 [] rfl o27 ad nl ca (l.map (Value.int .u32)) rfl (by rw [List.length_map, ← Hnl.out]; omega) hnw (by intro u hu; obtain ⟨x, _, rfl⟩ := List.mem_map.mp hu; rfl) (by unfold maxLen; omega) (by omega) (by simp) ?_); intro v' w1 o1 g1 _)
      obtain ⟨pv, cv, rfl⟩ := own_shape o1
      rw [Nat.zero_add] at o1 ⊢
      have g1' : ((w.alloc (.cells #[.int .u8 (f 0), .int .u8 (f 1), .int .u8 (f 2), .int .u8 (f 3), .int .u8 (f 4), .int .u8 (f 5), .int .u8 (f 6), .int .u8 (f 7), .int .u8 (f 8), .int .u8 (f 9), .int .u8 (f 10), .int .u8 (f 11), .int .u8 (f 12), .int .u8 (f 13), .int .u8 (f 14), .int .u8 (f 15)] 28)).alloc (.cells #[] 27)).grownBy w1 (some (w.heap.size + 1)) := g1
      have g2 := grown_row gW g1' (by omega)
      have z2 := (g1'.block w.heap.size (Array.getElem?_eq_some_iff.1 zW).1 (by simp only [ne_eq, Option.some.injEq]; omega)).trans zW
      go_meet
      exact ⟨_, _, rfl, by simpa using o1, g2, z2⟩
  case rest =>
    obtain ⟨pv, cv, rfl, oP, gP, zP⟩ := hcut
    clear gW zW z27 o27
    go_upto_if 41 with fail
    go_cut [15] from 28 to 62 (fun v wx => ∃ (gp np cp : Nat) (P : Nat → Int), v = .slice (some ⟨gp, 0, none⟩) np cp ∧ 0 < np ∧ np ≤ 1024 ∧ np ≤ cp ∧ gp < wx.heap.size ∧ w.heap.size < gp ∧ (∀ i, i < np → wx.cell? ⟨gp, i, none⟩ = some (.int .u32 (P i))) ∧ w.grownBy wx none ∧ wx.heap[w.heap.size]? = some (.cells #[.int .u8 (f 0), .int .u8 (f 1), .int .u8 (f 2), .int .u8 (f 3), .int .u8 (f 4), .int .u8 (f 5), .int .u8 (f 6), .int .u8 (f 7), .int .u8 (f 8), .int .u8 (f 9), .int .u8 (f 10), .int .u8 (f 11), .int .u8 (f 12), .int .u8 (f 13), .int .u8 (f 14), .int .u8 (f 15)] 28 (0, 0)))
    case first =>
      by_cases hz : nl = 0
      · have z1 : ((nl : Int) == 0) = true := by simp [hz]
        clear hz
        go_wp2_with fail
        go_meet
        have gA := World.grownBy_alloc wc (.cells #[.int .u32 7] 27) none
        exact ⟨wc.heap.size, 1, 1, fun _ => 7, rfl, by omega, by omega, by omega, by simp, Nat.lt_of_lt_of_le (Array.getElem?_eq_some_iff.1 zP).1 (Nat.le_refl _), fun i hi => by
          have hi0 : i = 0 := by omega
          subst hi0
          rw [cell_of_row _ wc.heap.size 0 _ 27 (0, 0) (heap_alloc_new wc (.cells #[.int .u32 7] 27))]; rfl, grown_then gP gA, row_grown zP gA⟩
      · have z1 : ((nl : Int) == 0) = false := by simp [hz]
        have z2 : ¬ (nl : Int) = 0 := by omega
        obtain ⟨gp, cp, hpv, hcp⟩ := own_some oP (by omega)
        injection hpv with hpv1 _ hpv2
        subst hpv1 hpv2
        go_wp2_with fail
        go_meet
        refine ⟨gp, nl, cv, fun i => l.getD i 0, rfl, by omega, by omega, by omega, (oP.lt gp rfl).2, (oP.lt gp rfl).1, fun i hi => ?_, gP, zP⟩
        have hc := oP.cellAt i (by omega)
        rw [hc, List.getElem?_map, List.getElem?_eq_getElem (by have := Hnl.out; omega)]
        simp [List.getD, List.getElem?_eq_getElem (show i < l.length by have := Hnl.out; omega)]
    case rest =>
      obtain ⟨gp, np, cp, P, rfl, hnp0, hnp1, hncp, hgpl, hgpw, hPc, gC, zC⟩ := hcut
      have HPc : Hid (∀ i, i < np → wc.cell? ⟨gp, i, none⟩ = some (.int .u32 (P i))) := hPc
      have HzC : Hid (wc.heap[w.heap.size]? = some (.cells #[.int .u8 (f 0), .int .u8 (f 1), .int .u8 (f 2), .int .u8 (f 3), .int .u8 (f 4), .int .u8 (f 5), .int .u8 (f 6), .int .u8 (f 7), .int .u8 (f 8), .int .u8 (f 9), .int .u8 (f 10), .int .u8 (f 11), .int .u8 (f 12), .int .u8 (f 13), .int .u8 (f 14), .int .u8 (f 15)] 28 (0, 0))) := zC
      obtain ⟨y0, y1, y2, y3, y4, y5, y6, y7, y8, y9, y10, y11, y12, y13, y14, y15, _⟩ := row16 zC
      clear oP gP zP hPc
      obtain ⟨m, hm⟩ : ∃ m : Nat, (m : Int) = bits % 33 := ⟨(bits % 33).toNat, by omega⟩
      obtain ⟨kk, hkk⟩ : ∃ kk, kk = (m + 7) / 8 := ⟨_, rfl⟩
      have hE1 : EntMem wc p E := HE.out.cells (fun a v h => gC.cell h (by simp))
      have hB := build_0 ap sel seq bits f p cE np E wc hs0 hs1 hsel hq0 hq1 hb0 hb1 hE1 hEl hnp0 (by omega) m hm kk hkk
      have HB : Hid _ := hB
      have Hm : Hid ((m : Int) = bits % 33 ∧ kk = (m + 7) / 8) := ⟨hm, hkk⟩
      clear hB hE1 hm hkk
      go_upto_region 7 with (go_at_call 10; go_must (refine Calls.mono HB.out ?_; rintro e wB ⟨g, n, cap, rfl, hg, oB, gB⟩))
      have hLB := own_lies oB
      have hgl : g < wB.heap.size := (oB.lt g rfl).2
      have hlen := oB.1
      rw [bcells_length] at hlen
      have hncap : n ≤ cap := own_cap oB
      have Hlen : Hid (n = 4 + (1 + kk + (2 + (encAll ap (E.map (entOf np))).length))) := by
        show n = _
        simp [be32, be16] at hlen
        omega
      have gCB := grown_then gC gB
      have hwc : w.heap.size ≤ wc.heap.size := gC.size
      have hwB : wc.heap.size ≤ wB.heap.size := gB.size
      clear oB hlen HB
      have gK := World.grownBy_alloc wB (.cells #[.string ⟨#[97]⟩, .int .u16 1, .int .u8 1, .bool ap] 34) none
      have gV := World.grownBy_alloc (wB.alloc (.cells #[.string ⟨#[97]⟩, .int .u16 1, .int .u8 1, .bool ap] 34)) (.cells #[.int .u64 0, .int .u64 0, .pointer none, .int .u8 0, .slice none 0 0, .int .u32 99, .int .u32 0] 51) none
      have gR := World.grownBy_alloc ((wB.alloc (.cells #[.string ⟨#[97]⟩, .int .u16 1, .int .u8 1, .bool ap] 34)).alloc (.cells #[.int .u64 0, .int .u64 0, .pointer none, .int .u8 0, .slice none 0 0, .int .u32 99, .int .u32 0] 51)) (.cells #[.pointer none, .int .i64 0, .bool false, .int .u8 0, .int .u8 0, .int .u8 0, .int .u8 0, .int .u8 0, .int .u8 0, .int .u8 0, .int .u8 0, .int .u8 0, .int .u8 0, .int .u8 0, .int .u8 0, .slice none 0 0, .slice (some ⟨wB.heap.size + 1, 0, none⟩) 1 1, .slice none 0 0, .slice none 0 0, .slice none 0 0, .int .i64 0, .slice (some ⟨gp, 0, none⟩) np cp] 59) none
      have zK := row_grown (row_grown (heap_alloc_new wB (.cells #[.string ⟨#[97]⟩, .int .u16 1, .int .u8 1, .bool ap] 34)) gV) gR
      have zV := row_grown (heap_alloc_new (wB.alloc (.cells #[.string ⟨#[97]⟩, .int .u16 1, .int .u8 1, .bool ap] 34)) (.cells #[.int .u64 0, .int .u64 0, .pointer none, .int .u8 0, .slice none 0 0, .int .u32 99, .int .u32 0] 51)) gR
      have zR := heap_alloc_new ((wB.alloc (.cells #[.string ⟨#[97]⟩, .int .u16 1, .int .u8 1, .bool ap] 34)).alloc (.cells #[.int .u64 0, .int .u64 0, .pointer none, .int .u8 0, .slice none 0 0, .int .u32 99, .int .u32 0] 51)) (.cells #[.pointer none, .int .i64 0, .bool false, .int .u8 0, .int .u8 0, .int .u8 0, .int .u8 0, .int .u8 0, .int .u8 0, .int .u8 0, .int .u8 0, .int .u8 0, .int .u8 0, .int .u8 0, .int .u8 0, .slice none 0 0, .slice (some ⟨wB.heap.size + 1, 0, none⟩) 1 1, .slice none 0 0, .slice none 0 0, .slice none 0 0, .int .i64 0, .slice (some ⟨gp, 0, none⟩) np cp] 59)
      rw [World.size_alloc] at zV
      rw [World.size_alloc, World.size_alloc] at zR
      have gW := grown_then gK (grown_then gV gR)
      go_upto_region 8 with fail
      obtain ⟨W, hW⟩ : ∃ W, W = (((wB.alloc (.cells #[.string ⟨#[97]⟩, .int .u16 1, .int .u8 1, .bool ap] 34)).alloc (.cells #[.int .u64 0, .int .u64 0, .pointer none, .int .u8 0, .slice none 0 0, .int .u32 99, .int .u32 0] 51)).alloc (.cells #[.pointer none, .int .i64 0, .bool false, .int .u8 0, .int .u8 0, .int .u8 0, .int .u8 0, .int .u8 0, .int .u8 0, .int .u8 0, .int .u8 0, .int .u8 0, .int .u8 0, .int .u8 0, .int .u8 0, .slice none 0 0, .slice (some ⟨wB.heap.size + 1, 0, none⟩) 1 1, .slice none 0 0, .slice none 0 0, .slice none 0 0, .int .i64 0, .slice (some ⟨gp, 0, none⟩) np cp] 59)) := ⟨_, rfl⟩
      rw [← hW] at zK zV zR gW ⊢
      clear hW gK gV gR
      obtain ⟨hRib0, h21⟩ := reader_rib (V := .slice (some ⟨wB.heap.size + 1, 0, none⟩) 1 1) (Pe := .slice (some ⟨gp, 0, none⟩) np cp) (bV := wB.heap.size) (nR := 1) (xR := [.int .u64 0, .int .u64 0, .pointer none, .int .u8 0, .slice none 0 0, .int .u32 99, .int .u32 0]) zR (Nat.le_trans (Nat.le_refl _) gW.size) ⟨rfl, .inr ⟨wB.heap.size + 1, 1, _, rfl, by omega, zV, Nat.le_refl _, by unfold maxLen; omega, rfl, rfl⟩⟩ (by simp only [Value.ownBlock, ne_eq, Option.some.injEq]; omega)
      have gAll := grown_then gCB gW
      obtain ⟨k0, k1, k2, k3, _⟩ := row4 zK
      have lK : wB.heap.size < W.heap.size := (Array.getElem?_eq_some_iff.1 zK).1
      have hes : (E.map (entOf np)).length = E.length := by simp
      have hBW : wB.heap.size ≤ W.heap.size := gW.size
      have hgpB : gp < wB.heap.size := Nat.lt_of_lt_of_le hgpl hwB
      have hrib := rib_plain1 F a4 a6 W.heap.size wB.heap.size (wB.heap.size + 1 + 1) St.fresh (.slice (some ⟨wB.heap.size + 1, 0, none⟩) 1 1) 1 [.int .u64 0, .int .u64 0, .pointer none, .int .u8 0, .slice none 0 0, .int .u32 99, .int .u32 0] g n cap gp 0 np cp m kk P (E.map (entOf np)) ((List.range kk).map f) seq ap ⟨#[97]⟩ W
        (by rw [gAll.tape]; exact hF) (hM.grown gAll) hRib0 rfl rfl (by simp [St.fresh]) (by simp [St.fresh]) (by omega) (by rw [hes]; exact hEl)
        (by have := Hm.out.1; simp [pMax]; omega) Hm.out.2 (by simp) (by intro x hx; obtain ⟨i, _, rfl⟩ := List.mem_map.mp hx; exact hf i)
        (Nat.lt_of_lt_of_le hgl gW.size) (out_none (by omega)) (by simp only [Value.ownBlock, ne_eq, Option.some.injEq]; omega) (by rw [hes]; exact hLB.block (gW.block g hgl (by simp)))
        (by have := Hlen.out; omega) (by have := Hlen.out; omega) h21 (Nat.lt_of_lt_of_le hgpB hBW) (out_none (by omega)) (by simp only [Value.ownBlock, ne_eq, Option.some.injEq]; omega)
        (fun i hi => by rw [Nat.zero_add, World.cell?_of_block (a := ⟨gp, i, none⟩) (gW.block gp hgpB (by simp)), World.cell?_of_block (a := ⟨gp, i, none⟩) (gB.block gp hgpl (by simp))]; exact HPc.out i hi)
        (by
          intro e he
          obtain ⟨pe, hpe, rfl⟩ := List.mem_map.mp he
          obtain ⟨i, hi⟩ := List.mem_iff_getElem?.mp hpe
          obtain ⟨h1, _, h3, _⟩ := HE.out i pe hi
          have hmod : pe.1 % np < np := Nat.mod_lt _ hnp0
          refine ⟨hmod, by show pe.1 % np ≤ 65535; omega, by show (pe.2.take 63).length ≤ 63; rw [List.length_take]; omega, fun x hx => h3 x (List.mem_of_mem_take hx)⟩)
      have HR : Hid _ := hrib
      clear hrib hRib0 h21
      go_upto_region 9 with (go_at_call 11; go_must (refine Calls.mono HR.out ?_; rintro e w3 ⟨s', V', hH3, hor⟩; obtain ⟨hfe, rfl, xs, hR3, hD3⟩ := hor.resolve_left (fun h => absurd h.1 (by have := Hlen.out; omega)); clear hfe hor))
      rw [hes] at hR3
      obtain ⟨gv, cv', hV', hcv⟩ := own_some hR3.oV (by omega)
      subst hV'
      have c16 := hR3.cV
      have c99 : w3.cell? ⟨gv, 5, none⟩ = some (.int .u32 99) := by
        have h5 := hR3.oV.cellAt 5 (by omega)
        rw [h5]
        rfl
      have i0 : (0 : Int) < 1 + (E.length : Int) := by omega
      have i00 : 0 < 1 + E.length := by omega
      have i1 : ¬ (1 + (E.length : Int) = 0) := by omega
      have HR3 : Hid _ := hR3
      have HD3 : Hid _ := hD3
      have z11 : w3.heap[w.heap.size]? = some (.cells #[.int .u8 (f 0), .int .u8 (f 1), .int .u8 (f 2), .int .u8 (f 3), .int .u8 (f 4), .int .u8 (f 5), .int .u8 (f 6), .int .u8 (f 7), .int .u8 (f 8), .int .u8 (f 9), .int .u8 (f 10), .int .u8 (f 11), .int .u8 (f 12), .int .u8 (f 13), .int .u8 (f 14), .int .u8 (f 15)] 28 (0, 0)) := (hH3.out w.heap.size (by omega) (out_none (by omega)) (by simp only [Value.ownBlock, ne_eq, Option.some.injEq]; omega)).1.trans ((gW.block w.heap.size (by omega) (by simp)).trans ((gB.block w.heap.size (by omega) (by simp)).trans HzC.out))
      obtain ⟨q0, q1, q2, q3, q4, q5, q6, q7, q8, q9, q10, q11, q12, q13, q14, q15, _⟩ := row16 z11
      clear hR3 hD3 y0 y1 y2 y3 y4 y5 y6 y7 y8 y9 y10 y11 y12 y13 y14 y15 k0 k1 k2 k3
      go_upto_region 17 with fail
      have hBel : Below w.heap.size w w3 := held_below gAll hH3 (by omega) (by intro k e; simp only [Value.ownBlock, Option.some.injEq] at e; omega)
      have hE3 : EntMem w3 p E := HE.out.cells (fun a v h => by
        have hb := World.block_lt_of_cell? w a h
        rw [World.cell?_of_block (hBel.block a.block hb)]
        exact h)
      have hP3 : ∀ i, i < np → w3.cell? ⟨gp, i, none⟩ = some (.int .u32 (P i)) := fun i hi => by
        have h1 := (hH3.out gp (Nat.lt_of_lt_of_le hgpB hBW) (out_none (by omega)) (by simp only [Value.ownBlock, ne_eq, Option.some.injEq]; omega)).1
        rw [World.cell?_of_block (a := ⟨gp, i, none⟩) h1, World.cell?_of_block (a := ⟨gp, i, none⟩) (gW.block gp hgpB (by simp)), World.cell?_of_block (a := ⟨gp, i, none⟩) (gB.block gp hgpl (by simp))]
        exact HPc.out i hi
      have hRt3 := rt_mem (by rw [hes]) HR3.out.oV HD3.out
      have hm128 : m ≤ 32 := by have := Hm.out.1; omega
      obtain ⟨v0, v1, v2, v3, v4, v5, v6, v7, v8, v9, v10, v11, v12, v13, v14, v15, hv⟩ := maskRow_vals f 12 m kk
      have hmk := goMask4_any f m kk w3 hm128 Hm.out.2
      have hwant := mask_law4 f hf m kk hm128 Hm.out.2
      rw [hv] at hmk hwant
      have Hwant : Hid _ := hwant
      have Hmk : Hid _ := hmk
      have HB3 : Hid (Below w.heap.size w w3) := hBel
      have HE3 : Hid (EntMem w3 p E) := hE3
      have HP3 : Hid (∀ i, i < np → w3.cell? ⟨gp, i, none⟩ = some (.int .u32 (P i))) := hP3
      have HRt3 : Hid (RtMem w3 gv (pHi 1 (padded ((List.range kk).map f)) m) (pLo 1 (padded ((List.range kk).map f)) m) (some (pMark a4 a6 1)) m P (E.map (entOf np))) := hRt3
      have Hc16 : Hid (w3.cell? ⟨wB.heap.size + 1 + 1, 16, none⟩ = some (.slice (some ⟨gv, 0, none⟩) (1 + E.length) cv')) := c16
      clear hmk hwant hv hBel hE3 hP3 hRt3 c16 c99 i0 i00 i1 HR3 HD3 hH3 z11 HE HPc HzC gAll gW gB gC gCB hcv t2 t3 hes zK zV zR hLB Hlen HR Hnl HL hlc
      go_upto_region 18 with (go_at_call 12; go_must (refine Calls.mono Hmk.out ?_; rintro e w4 ⟨rfl, g4⟩))
      have z23 := heap_alloc_new w4 (.cells #[.int .u8 v0, .int .u8 v1, .int .u8 v2, .int .u8 v3, .int .u8 v4, .int .u8 v5, .int .u8 v6, .int .u8 v7, .int .u8 v8, .int .u8 v9, .int .u8 v10, .int .u8 v11, .int .u8 v12, .int .u8 v13, .int .u8 v14, .int .u8 v15] 28)
      have g5 := grown_then g4 (World.grownBy_alloc w4 (.cells #[.int .u8 v0, .int .u8 v1, .int .u8 v2, .int .u8 v3, .int .u8 v4, .int .u8 v5, .int .u8 v6, .int .u8 v7, .int .u8 v8, .int .u8 v9, .int .u8 v10, .int .u8 v11, .int .u8 v12, .int .u8 v13, .int .u8 v14, .int .u8 v15] 28) none)
      obtain ⟨w5, hw5⟩ : ∃ w5, w5 = w4.alloc (.cells #[.int .u8 v0, .int .u8 v1, .int .u8 v2, .int .u8 v3, .int .u8 v4, .int .u8 v5, .int .u8 v6, .int .u8 v7, .int .u8 v8, .int .u8 v9, .int .u8 v10, .int .u8 v11, .int .u8 v12, .int .u8 v13, .int .u8 v14, .int .u8 v15] 28) := ⟨_, rfl⟩
      rw [← hw5] at z23 g5 ⊢
      clear hw5 q0 q1 q2 q3 q4 q5 q6 q7 q8 q9 q10 q11 q12 q13 q14 q15 g4 Hmk
      go_wp2_with fail
      refine loop5 (pHi 1 (padded ((List.range kk).map f)) m) (pLo 1 (padded ((List.range kk).map f)) m) _ m P E p cE gp np cp _ gv cv' _ v0 v1 v2 v3 v4 v5 v6 v7 v8 v9 v10 v11 v12 v13 v14 v15 w5 _ (by omega) (pHi_range _ _ _).1 (pHi_range _ _ _).2 (pLo_range _ _ _).1 (pLo_range _ _ _).2 Hwant.out z23 (g5.cell Hc16.out (by simp)) (HRt3.out.cells (fun a v h => g5.cell h (by simp))) (HE3.out.cells (fun a v h => g5.cell h (by simp))) hEl hnp0 hnp1 (fun i hi => g5.cell (HP3.out i hi) (by simp)) _ _ _ _ _ _ _ _ _ _ _ _ _ _ _ _ _ _ _ _ _ _ _ _ _ _ _ _ _ _ _ _ _ _ _ _ _ _ _ _ _ _ _ _ _ _ _ _ _ _ _ _ _ _ _ _ _ _ _ _ _ _ _ _ _ _ _ _ _ _ _ _ _ _ _ _ _ _ _ _ _ _ _ _ _ _ _ _ _ _ _ _ _ _ _ _ _ _ _ _ _ _ _ _ _ _ _ _ _ _ _ _ _ _ _ _ _ _ _ _ _ _ _ _ _ _ _ _ _ _ _ _ _ _ _ _ _ _ _ _ _ _ _ _ _ _ _ _ _ _ _ _ _ _ _ _ _ _ _ _ _ _ _ _ _ _ _ _ _ _ _ ?_
      intro u0 u1 u2 u3 u4 u5 u6 u7 u8 u9 u10 u11 u12 u13 u14 u15 u16 u17 u18 u19 u20 u21 u22 u23 u24 u25 u26 u27 u28 u29 u30 u31 u32 u33 u34 u35 u36 u37 u38 u39 u40 u41 u42 u43 u44 u45 u46 u47 u48 u49 u50 u51 u52 u53 u54 u55 u56 u57 u58 u59 u60 u61 u62 u63 u64 u65 u66 u67 u68 u69 u70 u71 u72 u73 u74 u75 u76 u77 u78 u79 u80 u81 u82 u83 u84 u85 u86 u87 u88 u89 u90 u91 u92 u93 u94 u95 u96 u97 u98 u99 u100 u101 u102 u103 u104 u105 u106 u107 u108 u109 u110 u111 u112 u113 u114 u115 u116 u117 u118 u119 u120 u121 u122 u123 u124 u125 u126 u127 u128 u129 u130 u131 u132 u133 u134 u135 u136 u137 u138 u139 u140 u141 u142 u143 u144 u145 u146 u147 u148 u149 u150 u151 u152 u153 u154 u155 u156 u157 u158 u159 u160 u161 u162 u163 u164 u165 u166 u167 u168 u169 u170 u171 u172 u173 u174 u175 u176 u177 w6 g6
      have hB6 := below_more HB3.out (grown_then g5 g6) (Nat.le_refl _)
      clear Hwant HE3 HP3 HRt3 Hc16 z23
      go_wp2_with fail
      go_ret
      exact ⟨rfl, hB6⟩
end Go.Proofs.YbulkaigaFmt
