import Derived.Test.YbulkaigaFmtBuildBase
import Derived.BigRegion
import Derived.Deep.CutRange
namespace Go.Proofs.YbulkaigaFmt
open Go.RowKit

set_option maxRecDepth 100000 in
set_option maxHeartbeats 8000000 in
theorem build_0_false (sel seq bits : Int) (f : Nat → Int) (p : Option Go.Addr) (cE np : Nat) (E : List (Nat × List Int)) (w : World) (hs0 : 0 ≤ sel) (hs1 : sel ≤ 255) (hsel : sel % 6 = 0) (hq0 : 0 ≤ seq) (hq1 : seq ≤ 4294967295) (hb0 : 0 ≤ bits) (hb1 : bits ≤ 255)
    (hE : EntMem w p E) (hEl : E.length ≤ 300) (hnp : 0 < np) (hnp1 : np ≤ 65536) (m : Nat) (hm : (m : Int) = bits % 33) (kk : Nat) (hkk : kk = (m + 7) / 8) :
    Calls Ybaf.prog 10 #[.int .u8 sel, .bool false, .int .u32 seq, .int .u8 bits, .agg #[.int .u8 (f 0), .int .u8 (f 1), .int .u8 (f 2), .int .u8 (f 3), .int .u8 (f 4), .int .u8 (f 5), .int .u8 (f 6), .int .u8 (f 7), .int .u8 (f 8), .int .u8 (f 9), .int .u8 (f 10), .int .u8 (f 11), .int .u8 (f 12), .int .u8 (f 13), .int .u8 (f 14), .int .u8 (f 15)], .slice p E.length cE, .int .i64 np] w fun e w' => ∃ g n cap,
      e = .returned (.tuple #[.slice (some ⟨g, 0, none⟩) n cap, .agg #[.string ⟨#[97]⟩, .int .u16 1, .int .u8 1, .bool false], .int .u16 1, .bool true, .int .i64 m]) ∧ w.heap.size ≤ g ∧
      w'.ownsRow w.heap.size 5 1 (.slice (some ⟨g, 0, none⟩) n cap) n (bcells (be32 seq ++ (([] : List Int) ++ ([(m : Int)] ++ (((List.range kk).map f) ++ (be16 (E.length : Int) ++ encAll false (E.map (entOf np)))))))) ∧ w.grownBy w' none := by
  have hs2 : sel.tmod 6 = 0 := by rw [Int.tmod_eq_emod_of_nonneg hs0]; exact hsel
  have hmb : bits.tmod 33 = (m : Int) := by rw [Int.tmod_eq_emod_of_nonneg hb0, hm]
  have hml : m ≤ 32 := by omega
  have hk16 : kk ≤ 16 := by omega
  have hkd : ((m : Int) + 7).tdiv 8 = (kk : Int) := by rw [Int.tdiv_eq_ediv_of_nonneg (by omega)]; omega
  have Hkk : Hid (kk = (m + 7) / 8) := hkk
  have Hm : Hid ((m : Int) = bits % 33) := hm
  clear hkk hm hsel
  have gA := grown_then (@grown2 w (.cells #[.int .u8 (f 0), .int .u8 (f 1), .int .u8 (f 2), .int .u8 (f 3), .int .u8 (f 4), .int .u8 (f 5), .int .u8 (f 6), .int .u8 (f 7), .int .u8 (f 8), .int .u8 (f 9), .int .u8 (f 10), .int .u8 (f 11), .int .u8 (f 12), .int .u8 (f 13), .int .u8 (f 14), .int .u8 (f 15)] 28) (.cells #[.string ⟨#[]⟩, .int .u16 0, .int .u8 0, .bool false] 34)) (World.grownBy_alloc _ (.cells #[.string ⟨#[]⟩, .int .u16 0, .int .u8 0, .bool false] 34) none)
  have n0 := World.ownsRow_nil (((w.alloc (.cells #[.int .u8 (f 0), .int .u8 (f 1), .int .u8 (f 2), .int .u8 (f 3), .int .u8 (f 4), .int .u8 (f 5), .int .u8 (f 6), .int .u8 (f 7), .int .u8 (f 8), .int .u8 (f 9), .int .u8 (f 10), .int .u8 (f 11), .int .u8 (f 12), .int .u8 (f 13), .int .u8 (f 14), .int .u8 (f 15)] 28)).alloc (.cells #[.string ⟨#[]⟩, .int .u16 0, .int .u8 0, .bool false] 34)).alloc (.cells #[.string ⟨#[]⟩, .int .u16 0, .int .u8 0, .bool false] 34)) (w.heap.size + 3) 5 1
  go_enter Ybaf.func10, Ybaf.ntmps10
  obtain ⟨WA, hWA⟩ : ∃ WA, WA = (((w.alloc (.cells #[.int .u8 (f 0), .int .u8 (f 1), .int .u8 (f 2), .int .u8 (f 3), .int .u8 (f 4), .int .u8 (f 5), .int .u8 (f 6), .int .u8 (f 7), .int .u8 (f 8), .int .u8 (f 9), .int .u8 (f 10), .int .u8 (f 11), .int .u8 (f 12), .int .u8 (f 13), .int .u8 (f 14), .int .u8 (f 15)] 28)).alloc (.cells #[.string ⟨#[]⟩, .int .u16 0, .int .u8 0, .bool false] 34)).alloc (.cells #[.string ⟨#[]⟩, .int .u16 0, .int .u8 0, .bool false] 34)) := ⟨_, rfl⟩
  have z11 : WA.heap[w.heap.size]? = some (.cells #[.int .u8 (f 0), .int .u8 (f 1), .int .u8 (f 2), .int .u8 (f 3), .int .u8 (f 4), .int .u8 (f 5), .int .u8 (f 6), .int .u8 (f 7), .int .u8 (f 8), .int .u8 (f 9), .int .u8 (f 10), .int .u8 (f 11), .int .u8 (f 12), .int .u8 (f 13), .int .u8 (f 14), .int .u8 (f 15)] 28 (0, 0)) := by rw [hWA]; exact row_grown (heap_alloc_new w _) (grown2 _ _)
  have z15 : WA.heap[w.heap.size + 1]? = some (.cells #[.string ⟨#[]⟩, .int .u16 0, .int .u8 0, .bool false] 34 (0, 0)) := by rw [hWA, ← World.size_alloc w (.cells #[.int .u8 (f 0), .int .u8 (f 1), .int .u8 (f 2), .int .u8 (f 3), .int .u8 (f 4), .int .u8 (f 5), .int .u8 (f 6), .int .u8 (f 7), .int .u8 (f 8), .int .u8 (f 9), .int .u8 (f 10), .int .u8 (f 11), .int .u8 (f 12), .int .u8 (f 13), .int .u8 (f 14), .int .u8 (f 15)] 28)]; exact row_grown (heap_alloc_new _ _) (World.grownBy_alloc _ _ none)
  have z19 : WA.heap[w.heap.size + 1 + 1]? = some (.cells #[.string ⟨#[]⟩, .int .u16 0, .int .u8 0, .bool false] 34 (0, 0)) := by rw [hWA, ← World.size_alloc w (.cells #[.int .u8 (f 0), .int .u8 (f 1), .int .u8 (f 2), .int .u8 (f 3), .int .u8 (f 4), .int .u8 (f 5), .int .u8 (f 6), .int .u8 (f 7), .int .u8 (f 8), .int .u8 (f 9), .int .u8 (f 10), .int .u8 (f 11), .int .u8 (f 12), .int .u8 (f 13), .int .u8 (f 14), .int .u8 (f 15)] 28), ← World.size_alloc _ (.cells #[.string ⟨#[]⟩, .int .u16 0, .int .u8 0, .bool false] 34)]; exact heap_alloc_new _ _
  have hWs : WA.heap.size = w.heap.size + 3 := by rw [hWA]; simp
  rw [← hWA] at gA n0
  go_wp2_with fail
  rw [← hWA]
  clear hWA
  refine (append32_any (w.heap.size + 3) 0 seq (.slice none 0 0) [] WA hq0 hq1 (by omega) (by omega) n0).mono ?_
  rintro e w1 ⟨g1, c1, rfl, o1, g1'⟩
  replace g1' : WA.grownBy w1 none := g1'
  have y11 := row_grown z11 g1'
  have y15 := row_grown z15 g1'
  have y19 := row_grown z19 g1'
  obtain ⟨k0, k1, k2, k3, kf⟩ := row4 y19
  have kz := kf 0
  have ky := kf 1
  have kx := kf 2
  have ku := kf 3
  have gB := grown_then gA g1'
  have hb1s : w.heap.size + 3 ≤ w1.heap.size := by have := g1'.size; omega
  clear z11 z15 z19 n0 g1' kf gA
  go_upto_region 32 with fail
  have s19 : ((((w1.setCell ⟨w.heap.size + 1 + 1, 0, none⟩ (.string ⟨#[97]⟩)).setCell ⟨w.heap.size + 1 + 1, 1, none⟩ (.int .u16 1)).setCell ⟨w.heap.size + 1 + 1, 2, none⟩ (.int .u8 1)).setCell ⟨w.heap.size + 1 + 1, 3, none⟩ (.bool false)).heap[w.heap.size + 1 + 1]? = some (.cells #[.string ⟨#[97]⟩, .int .u16 1, .int .u8 1, .bool false] 34 (0, 0)) := set4 y19
  have gS : w1.grownBy ((((w1.setCell ⟨w.heap.size + 1 + 1, 0, none⟩ (.string ⟨#[97]⟩)).setCell ⟨w.heap.size + 1 + 1, 1, none⟩ (.int .u16 1)).setCell ⟨w.heap.size + 1 + 1, 2, none⟩ (.int .u8 1)).setCell ⟨w.heap.size + 1 + 1, 3, none⟩ (.bool false)) (some (w.heap.size + 1 + 1)) := grown_set1 (grown_set1 (grown_set1 (grown_set1 (grown_self w1 _))))
  obtain ⟨w2, hw2⟩ : ∃ w2, w2 = ((((w1.setCell ⟨w.heap.size + 1 + 1, 0, none⟩ (.string ⟨#[97]⟩)).setCell ⟨w.heap.size + 1 + 1, 1, none⟩ (.int .u16 1)).setCell ⟨w.heap.size + 1 + 1, 2, none⟩ (.int .u8 1)).setCell ⟨w.heap.size + 1 + 1, 3, none⟩ (.bool false)) := ⟨_, rfl⟩
  rw [← hw2] at s19 gS ⊢
  have gO1 : w.heap.size + 3 ≤ g1 := (o1.lt g1 rfl).1
  have o2 := own_grown o1 gS (by simp only [Value.ownBlock, ne_eq, Option.some.injEq]; omega)
  have x11 : w2.heap[w.heap.size]? = _ := (gS.block w.heap.size (by omega) (by simp only [ne_eq, Option.some.injEq]; omega)).trans y11
  have x15 : w2.heap[w.heap.size + 1]? = _ := (gS.block (w.heap.size + 1) (by omega) (by simp only [ne_eq, Option.some.injEq]; omega)).trans y15
  have bel2 : Below w.heap.size w w2 := ⟨gS.os.trans gB.os, gS.tape.trans gB.tape, gS.output.trans gB.output, Nat.le_trans gB.size gS.size, fun i hi => (gS.block i (Nat.lt_of_lt_of_le hi gB.size) (by simp only [ne_eq, Option.some.injEq]; omega)).trans (gB.block i hi (by simp))⟩
  have hz2 : w.heap.size + 3 ≤ w2.heap.size := Nat.le_trans hb1s gS.size
  have k3' : w2.cell? ⟨w.heap.size + 1 + 1, 3, none⟩ = some (.bool false) := (row4 s19).2.2.2.1
  have kf' : w2.frozen? ⟨w.heap.size + 1 + 1, 3, none⟩ = false := (row4 s19).2.2.2.2 3
  clear hw2 gS y11 y15 y19 k0 k1 k2 k3 kz ky kx ku o1 gB hb1s
  have B2 : Bod w2 w2 (w.heap.size + 3) (.slice (some ⟨g1, 0, none⟩) 4 c1) 4 (be32 seq) := ⟨hz2, o2, Below.refl _ _⟩
  clear o2
  obtain ⟨wH, hwH⟩ : ∃ wH, wH = w2 := ⟨_, rfl⟩
  obtain ⟨gH, hgH⟩ : ∃ gH, gH = g1 := ⟨_, rfl⟩
  obtain ⟨cH, hcH⟩ : ∃ cH, cH = c1 := ⟨_, rfl⟩
  subst hgH hcH
  have BH : Bod w2 wH (w.heap.size + 3) (.slice (some ⟨gH, 0, none⟩) 4 cH) 4 (be32 seq ++ ([] : List Int)) := by rw [hwH, List.append_nil]; exact B2
  rw [← hwH]
  clear B2 hwH
  have e11 := (BH.bel.block w.heap.size (by omega)).trans x11
  have e15 := (BH.bel.block (w.heap.size + 1) (by omega)).trans x15
  have e19 := (BH.bel.block (w.heap.size + 1 + 1) (by omega)).trans s19
  have j3 := (row4 e19).2.2.2.1
  have jf := (row4 e19).2.2.2.2 3
  have belH : Below w.heap.size w wH := bel2.trans ⟨BH.bel.os, BH.bel.tape, BH.bel.output, BH.bel.size, fun i hi => BH.bel.block i (by omega)⟩
  go_upto_region 37 with fail
  have f19 := heap_setCell_same wH (w.heap.size + 1 + 1) 3 _ 34 (.bool false) e19
  have gI := grown_set1 (u := .bool false) (j := 3) (grown_self wH (w.heap.size + 1 + 1))
  obtain ⟨wI, hwI⟩ : ∃ wI, wI = wH.setCell ⟨w.heap.size + 1 + 1, 3, none⟩ (.bool false) := ⟨_, rfl⟩
  rw [← hwI] at f19 gI ⊢
  replace f19 : wI.heap[w.heap.size + 1 + 1]? = some (.cells #[.string ⟨#[97]⟩, .int .u16 1, .int .u8 1, .bool false] 34 (0, 0)) := f19
  have hBHl : w.heap.size + 3 ≤ wH.heap.size := BH.hb
  have f11 := (gI.block w.heap.size (by omega) (by simp only [ne_eq, Option.some.injEq]; omega)).trans e11
  have f15 := (gI.block (w.heap.size + 1) (by omega) (by simp only [ne_eq, Option.some.injEq]; omega)).trans e15
  have belI : Below w.heap.size w wI := belH.trans ⟨gI.os, gI.tape, gI.output, gI.size, fun i hi => gI.block i (by omega) (by simp only [ne_eq, Option.some.injEq]; omega)⟩
  have hgH : w.heap.size + 3 ≤ gH := (BH.own.lt gH rfl).1
  have BI : Bod wI wI (w.heap.size + 3) (.slice (some ⟨gH, 0, none⟩) 4 cH) 4 (be32 seq ++ ([] : List Int)) := ⟨Nat.le_trans BH.hb gI.size, own_grown BH.own gI (by simp only [Value.ownBlock, ne_eq, Option.some.injEq]; omega), Below.refl _ _⟩
  clear hwI gI BH e11 e15 e19 j3 jf belH x11 x15 s19 k3' kf' hBHl hz2 bel2 gO1
  have hwm : IntKind.u8.wrap (m : Int) = (m : Int) := by simp [IntKind.wrap, IntKind.bits, IntKind.signed]; omega
  have hoA := BI.own.alloc (.cells #[.int .u8 (m : Int)] 5)
  have hbI : w.heap.size + 3 ≤ (wI.alloc (.cells #[.int .u8 (m : Int)] 5)).heap.size := by have := BI.hb; simp; omega
  go_upto_region 39 with (at_builtin; go_must (refine wpList_append_own _ rfl _ _ _ rfl (w.heap.size + 3) 5 Ybaf.t5 (.int .u8 0) 1 1 Ybaf.underlying31 Ybaf.info5 rfl rfl rfl rfl (by omega) (.slice (some ⟨gH, 0, none⟩) 4 cH) (4) (bcells (be32 seq ++ ([] : List Int))) rfl hoA ⟨wI.heap.size, 0, none⟩ (1) (1) [.int .u8 (m : Int)] rfl (by rfl) (World.news_of_block (heap_alloc_new _ _)) (by simp [Value.oneCell']) (by unfold maxLen; omega) (by omega) hbI ?_); intro voJ wJ oJ grJ _; obtain ⟨gJ, cJ, rfl, _⟩ := own_some oJ (by omega))
  have BJ : Bod wI wJ (w.heap.size + 3) (.slice (some ⟨gJ, 0, none⟩) 5 cJ) 5 (be32 seq ++ ([] : List Int) ++ [(m : Int)]) := (BI.grown (World.grownBy_alloc wI (.cells #[.int .u8 (m : Int)] 5) none)).next grJ (by rw [bcells_append]; exact oJ)
  have hnews : ∀ j u, (bcells ((List.range kk).map f))[j]? = some u → wJ.cell? ((⟨w.heap.size, 0, none⟩ : Go.Addr).add j) = some u := by
    intro j u hj
    rw [add_off, World.cell?_of_block (a := ⟨w.heap.size, 0 + j, none⟩) (BJ.bel.block w.heap.size (by omega))]
    exact arr_cell f11 hk16 hj
  have q1 : (kk : Int) ≤ 16 := by omega
  have q2 : (0 : Int) ≤ (kk : Int) := by omega
  have q3 : IntKind.u16.wrap (E.length : Int) = (E.length : Int) := by simp [IntKind.wrap, IntKind.bits, IntKind.signed]; omega
  clear hoA hbI oJ grJ BI
  go_upto_region 40 with (at_builtin; go_must (refine wpList_append_own _ rfl _ _ _ rfl (w.heap.size + 3) 5 Ybaf.t5 (.int .u8 0) 1 1 Ybaf.underlying31 Ybaf.info5 rfl rfl rfl rfl (by omega) (.slice (some ⟨gJ, 0, none⟩) 5 cJ) (5) (bcells (be32 seq ++ ([] : List Int) ++ [(m : Int)])) rfl BJ.own ⟨w.heap.size, 0, none⟩ (kk) (16) (bcells ((List.range kk).map f)) rfl (by simp [bcells]) hnews (bcells_one _) (by unfold maxLen; omega) (by omega) BJ.hb ?_); intro voM wM oM grM _; obtain ⟨gM, cM, rfl, _⟩ := own_some oM (by omega))
  have BM : Bod wI wM (w.heap.size + 3) (.slice (some ⟨gM, 0, none⟩) (5 + kk) cM) (5 + kk) (be32 seq ++ ([] : List Int) ++ [(m : Int)] ++ (List.range kk).map f) := BJ.next grM (by rw [bcells_append]; exact oM)
  clear oM grM BJ hnews
  go_upto_region 41 with (go_at_call 22; go_must (refine (append16_any (w.heap.size + 3) (5 + kk) (E.length : Int) _ _ wM (by omega) (by omega) (by omega) BM.hb BM.own).mono ?_; rintro e wN ⟨gN, cN, rfl, oN, grN⟩))
  have BN : Bod wI wN (w.heap.size + 3) (.slice (some ⟨gN, 0, none⟩) (5 + kk + 2) cN) (5 + kk + 2) (be32 seq ++ ([] : List Int) ++ [(m : Int)] ++ (List.range kk).map f ++ be16 (E.length : Int)) := BM.next grN oN
  clear oN grN BM
  obtain ⟨pre, hpre⟩ : ∃ pre, pre = be32 seq ++ ([] : List Int) ++ [(m : Int)] ++ (List.range kk).map f ++ be16 (E.length : Int) := ⟨_, rfl⟩
  rw [← hpre] at BN
  have Hpre : Hid (pre = be32 seq ++ ([] : List Int) ++ [(m : Int)] ++ (List.range kk).map f ++ be16 (E.length : Int)) := hpre
  obtain ⟨npre, hnpre⟩ : ∃ npre, npre = 5 + kk + 2 := ⟨_, rfl⟩
  rw [← hnpre] at BN ⊢
  have hpre30 : npre ≤ 30 := by omega
  clear hpre hnpre
  go_wp2_with fail
  have HE : Hid (EntMem w p E) := hE
  have HW : Hid (Below w.heap.size w wI) := belI
  have H19 : Hid (wI.heap[w.heap.size + 1 + 1]? = some (.cells #[.string ⟨#[97]⟩, .int .u16 1, .int .u8 1, .bool false] 34 (0, 0))) := f19
  have H15 : Hid (wI.heap[w.heap.size + 1]? = some (.cells #[.string ⟨#[]⟩, .int .u16 0, .int .u8 0, .bool false] 34 (0, 0))) := f15
  have r0 : (0 : Int) < (np : Int) := by omega
  clear hE belI f19 f15 f11
  go_loopw [23, 97] (fun b i wr => ∃ (x n gv cv : Nat), x ≤ E.length ∧ i = .int .i64 x ∧ b = .slice (some ⟨gv, 0, none⟩) n cv ∧ n ≤ 30 + 269 * x ∧ Bod wI wr (w.heap.size + 3) (.slice (some ⟨gv, 0, none⟩) n cv) n (pre ++ encAll false ((E.take x).map (entOf np)))) (fun _ i _ => E.length - (intOf i).toNat)
  case atStart => exact ⟨0, npre, gN, cN, Nat.zero_le _, rfl, rfl, by omega, by simpa [encAll] using BN⟩
  case round =>
    obtain ⟨x, n, gv, cv, hx, rfl, rfl, hnb, hB⟩ := hrel
    by_cases hlt : x < E.length
    · obtain ⟨pe, hpe⟩ : ∃ pe, E[x]? = some pe := ⟨_, List.getElem?_eq_getElem hlt⟩
      have hcell : ∀ a v, w.cell? a = some v → wr.cell? a = some v := fun a v h => by
        have hb := World.block_lt_of_cell? w a h
        rw [World.cell?_of_block (hB.bel.block a.block (by omega)), World.cell?_of_block (HW.out.block a.block hb)]
        exact h
      obtain ⟨hp1, hp2, hp3, b, off, pa, ca, rfl, e2', e3', e4, e5⟩ := HE.out x pe hpe
      have e2 := hcell _ _ e2'
      have e3 := hcell _ _ e3'
      rw [Nat.mul_comm 2 x] at e2 e3
      have hbl : b < wr.heap.size := World.block_lt_of_cell? wr _ e2
      obtain ⟨pr, la⟩ := pe
      simp only at hp1 hp2 hp3 e2 e3 e4 e5
      obtain ⟨zs, hzs⟩ : ∃ zs, zs = la.take 63 := ⟨_, rfl⟩
      have hal : min la.length 63 = zs.length := by rw [hzs, List.length_take]; omega
      have hz63 : zs.length ≤ 63 := by omega
      have Hzs : Hid (zs = la.take 63 ∧ E[x]? = some (pr, la)) := ⟨hzs, hpe⟩
      have Hr : Hid (∀ x ∈ zs, 0 ≤ x ∧ x ≤ 4294967295) := fun x hx => hp3 x (by rw [hzs] at hx; exact List.mem_of_mem_take hx)
      have Hc : Hid (∀ j x, zs[j]? = some x → ∃ ba oa, pa = some ⟨ba, oa, none⟩ ∧ w.cell? ⟨ba, oa + j, none⟩ = some (.int .u32 x)) := by
        intro j y hj
        refine e5 j y ?_
        rw [hzs, List.getElem?_take] at hj
        split at hj
        · exact hj
        · cases hj
      obtain ⟨px, hpx⟩ : ∃ px, px = pr % np := ⟨_, rfl⟩
      have hpxl : px ≤ 65535 := by rw [hpx]; exact Nat.le_trans (Nat.mod_le _ _) hp1
      have t1 : (pr : Int).tmod (np : Int) = (px : Int) := by rw [Int.tmod_eq_emod_of_nonneg (by omega), hpx]; omega
      have t2 : IntKind.u16.wrap (px : Int) = (px : Int) := by simp [IntKind.wrap, IntKind.bits, IntKind.signed]; omega
      have Hpx : Hid (px = pr % np) := hpx
      have xi : (x : Int) < (E.length : Int) := by omega
      have B1 := hB.grown (World.grownBy_alloc wr (.cells #[.int .u16 (pr : Int), .slice pa la.length ca] 63) none)
      have R1 := heap_alloc_new wr (.cells #[.int .u16 (pr : Int), .slice pa la.length ca] 63)
      obtain ⟨e28, he28⟩ : ∃ e28, e28 = wr.heap.size := ⟨_, rfl⟩
      clear hpe hzs e5 hp3 hcell e2' e3' hpx hB
      go_upto_region 48 with (go_at_call 22; go_must (refine (append16_any (w.heap.size + 3) n (px : Int) _ _ _ (by omega) (by omega) (by omega) B1.hb B1.own).mono ?_; rintro e wO ⟨gO, cO, rfl, oO, grO⟩))
      have ne1 := own_ne B1.own R1
      have BO := B1.next grO oO
      have RO := (grO.block wr.heap.size (by simp) (by simp only [Value.ownBlock, ne_eq, Option.some.injEq]; exact fun h => ne1 h.symm)).trans R1
      obtain ⟨L0, hL0⟩ : ∃ L0, L0 = pre ++ encAll false (List.map (entOf np) (List.take x E)) := ⟨_, rfl⟩
      have HL0 : Hid (L0 = pre ++ encAll false (List.map (entOf np) (List.take x E))) := hL0
      rw [← hL0] at BO
      rw [← he28] at RO ⊢
      have he28l : e28 < wO.heap.size := (Array.getElem?_eq_some_iff.1 RO).1
      clear B1 R1 oO grO ne1 hL0 e2 e3 hbl he28
      have hoO := BO.own.alloc (.cells #[.int .u8 0, .int .u8 0, .int .u8 0, .int .u8 0] 5)
      have hbO : w.heap.size + 3 ≤ (wO.alloc (.cells #[.int .u8 0, .int .u8 0, .int .u8 0, .int .u8 0] 5)).heap.size := by have := BO.hb; simp; omega
      go_upto_region 49 with (at_builtin; go_must (refine wpList_append_own _ rfl _ _ _ rfl (w.heap.size + 3) 5 Ybaf.t5 (.int .u8 0) 1 1 Ybaf.underlying31 Ybaf.info5 rfl rfl rfl rfl (by omega) (.slice (some ⟨gO, 0, none⟩) (n + 2) cO) (n + 2) (bcells (L0 ++ be16 (px : Int))) rfl hoO ⟨wO.heap.size, 0, none⟩ (4) (4) [.int .u8 0, .int .u8 0, .int .u8 0, .int .u8 0] rfl (by rfl) (World.news_of_block (heap_alloc_new _ _)) (by simp [Value.oneCell']) (by unfold maxLen; omega) (by omega) hbO ?_); intro voP wP oP grP _; obtain ⟨gP, cP, rfl, _⟩ := own_some oP (by omega))
      have neP := own_ne BO.own RO
      have BP : Bod wI wP (w.heap.size + 3) (.slice (some ⟨gP, 0, none⟩) (n + 2 + 4) cP) (n + 2 + 4) (L0 ++ be16 (px : Int) ++ [0, 0, 0, 0]) := (BO.grown (World.grownBy_alloc wO (.cells #[.int .u8 0, .int .u8 0, .int .u8 0, .int .u8 0] 5) none)).next grP (by rw [bcells_append]; exact oP)
      have RP := (grP.block e28 (by simp; omega) (by simp only [Value.ownBlock, ne_eq, Option.some.injEq]; exact fun h => neP h.symm)).trans (row_grown RO (World.grownBy_alloc wO (.cells #[.int .u8 0, .int .u8 0, .int .u8 0, .int .u8 0] 5) none))
      clear BO RO hoO hbO oP grP neP he28l
      go_upto_region 51 with fail
      have BS : Bod wI wP (w.heap.size + 3) (.slice (some ⟨gP, 0, none⟩) (n + 2 + 4) cP) (n + 2 + 4) (L0 ++ (be16 (px : Int) ++ ([0, 0, 0, 0] ++ []))) := by
        have h := BP
        simpa only [List.append_assoc, List.append_nil] using h
      obtain ⟨wS, hwS⟩ : ∃ wS, wS = wP := ⟨_, rfl⟩
      obtain ⟨gS, hgS⟩ : ∃ gS, gS = gP := ⟨_, rfl⟩
      obtain ⟨cS, hcS⟩ : ∃ cS, cS = cP := ⟨_, rfl⟩
      subst hwS hgS hcS
      have RS := RP
      clear BP RP
      have S0 := (row2 RS).1
      have S1 := (row2 RS).2
      have lS : e28 < wS.heap.size := (Array.getElem?_eq_some_iff.1 RS).1
      obtain ⟨nS, hnS⟩ : ∃ nS, nS = n + 2 + 4 := ⟨_, rfl⟩
      rw [← hnS] at BS ⊢
      have hnSb : nS ≤ n + 10 := by omega
      obtain ⟨LS, hLS⟩ : ∃ LS, LS = L0 ++ (be16 (px : Int) ++ ([0, 0, 0, 0] ++ [])) := ⟨_, rfl⟩
      rw [← hLS] at BS
      have HLS : Hid (LS = L0 ++ (be16 (px : Int) ++ ([0, 0, 0, 0] ++ []))) := hLS
      have BS1 := BS.grown (World.grownBy_alloc wS (.cells #[.int .u16 (pr : Int), .slice pa la.length ca] 63) none)
      clear hnS hLS BS RS
      by_cases hz : zs.length = 0
      · have z1 : (zs.length : Int) = 0 := by omega
        have z2 : ((zs.length : Int) == 0) = true := by simp [hz]
        go_wp2_with (first
          | (go_at_call 16; go_must (refine (asns_any (pr : Int) pa la.length ca wS e4 hp2).mono ?_; rintro e w' ⟨rfl, rfl⟩; rw [hal]))
          | (go_at_call 22; go_must (refine (append16_any (w.heap.size + 3) nS 0 _ _ _ (by omega) (by omega) (by omega) BS1.hb BS1.own).mono ?_; rintro e wT ⟨gT, cT, rfl, oT, grT⟩)))
        go_roundw
        case rel =>
          refine ⟨x + 1, nS + 2, gT, cT, by omega, by go_num, rfl, by omega, ?_⟩
          have hfin := BS1.next grT oT
          rw [enc_next Hzs.out.2 false, ← Hzs.out.1, ← Hpx.out, ← List.append_assoc, ← HL0.out]
          rw [HLS.out] at hfin
          have e1 : attrLen zs = 0 := by simp [attrLen, hz]
          have e2 : attrBytes zs = [] := by simp [attrBytes, hz]
          rw [e1, e2]
          simpa [encHead] using hfin
        case measure => simp [intOf]; omega
      · have z1 : ¬ (zs.length : Int) = 0 := by omega
        have z2 : ((zs.length : Int) == 0) = false := by simp [hz]
        have z3 : IntKind.u8.wrap (2 + 4 * (zs.length : Int)) = 2 + 4 * (zs.length : Int) := by simp [IntKind.wrap, IntKind.bits, IntKind.signed]; omega
        have z4 : IntKind.u8.wrap (zs.length : Int) = (zs.length : Int) := by simp [IntKind.wrap, IntKind.bits, IntKind.signed]; omega
        go_upto_region 55 with (first
          | (go_at_call 16; go_must (refine (asns_any (pr : Int) pa la.length ca wS e4 hp2).mono ?_; rintro e w' ⟨rfl, rfl⟩; rw [hal]))
          | (go_at_call 22; go_must (refine (append16_any (w.heap.size + 3) nS (5 + 4 * (zs.length : Int)) _ _ _ (by omega) (by omega) (by omega) BS1.hb BS1.own).mono ?_; rintro e wT ⟨gT, cT, rfl, oT, grT⟩)))
        have BT := BS1.next grT oT
        have hoT := BT.own.alloc (.cells #[.int .u8 64, .int .u8 2, .int .u8 (2 + 4 * (zs.length : Int)), .int .u8 2, .int .u8 (zs.length : Int)] 5)
        have hbT : w.heap.size + 3 ≤ (wT.alloc (.cells #[.int .u8 64, .int .u8 2, .int .u8 (2 + 4 * (zs.length : Int)), .int .u8 2, .int .u8 (zs.length : Int)] 5)).heap.size := by have := BT.hb; simp; omega
        clear BS1 oT grT
        go_upto_region 56 with (at_builtin; go_must (refine wpList_append_own _ rfl _ _ _ rfl (w.heap.size + 3) 5 Ybaf.t5 (.int .u8 0) 1 1 Ybaf.underlying31 Ybaf.info5 rfl rfl rfl rfl (by omega) (.slice (some ⟨gT, 0, none⟩) (nS + 2) cT) (nS + 2) (bcells (LS ++ be16 (5 + 4 * (zs.length : Int)))) rfl hoT ⟨wT.heap.size, 0, none⟩ (5) (5) [.int .u8 64, .int .u8 2, .int .u8 (2 + 4 * (zs.length : Int)), .int .u8 2, .int .u8 (zs.length : Int)] rfl (by rfl) (World.news_of_block (heap_alloc_new _ _)) (by simp [Value.oneCell']) (by unfold maxLen; omega) (by omega) hbT ?_); intro voU wU oU grU _; obtain ⟨gU, cU, rfl, _⟩ := own_some oU (by omega))
        have BU : Bod wI wU (w.heap.size + 3) (.slice (some ⟨gU, 0, none⟩) (nS + 2 + 5) cU) (nS + 2 + 5) (LS ++ be16 (5 + 4 * (zs.length : Int)) ++ [64, 2, 2 + 4 * (zs.length : Int), 2, (zs.length : Int)]) := (BT.grown (World.grownBy_alloc wT (.cells #[.int .u8 64, .int .u8 2, .int .u8 (2 + 4 * (zs.length : Int)), .int .u8 2, .int .u8 (zs.length : Int)] 5) none)).next grU (by rw [bcells_append]; exact oU)
        obtain ⟨nU, hnU⟩ : ∃ nU, nU = nS + 2 + 5 := ⟨_, rfl⟩
        rw [← hnU] at BU ⊢
        have hnUb : nU ≤ n + 17 := by omega
        obtain ⟨LU, hLU⟩ : ∃ LU, LU = LS ++ be16 (5 + 4 * (zs.length : Int)) ++ [64, 2, 2 + 4 * (zs.length : Int), 2, (zs.length : Int)] := ⟨_, rfl⟩
        rw [← hLU] at BU
        have HLU : Hid (LU = LS ++ be16 (5 + 4 * (zs.length : Int)) ++ [64, 2, 2 + 4 * (zs.length : Int), 2, (zs.length : Int)]) := hLU
        clear BT hoT hbT oU grU hnU hLU S0 S1 lS
        go_wp2_with fail
        obtain ⟨zl, hzl⟩ : ∃ zl, zl = zs.length := ⟨_, rfl⟩
        have Hzl : Hid (zl = zs.length) := hzl
        rw [← hzl] at hz63 z1 z2 z3 z4 hz ⊢
        clear hzl hal
        go_loopw [23, 149] (fun b i wz => ∃ (j gy cy : Nat), j ≤ zl ∧ i = .int .i64 j ∧ b = .slice (some ⟨gy, 0, none⟩) (nU + 4 * j) cy ∧ Bod wI wz (w.heap.size + 3) (.slice (some ⟨gy, 0, none⟩) (nU + 4 * j) cy) (nU + 4 * j) (LU ++ (zs.take j).flatMap be32)) (fun _ i _ => zl - (intOf i).toNat)
        case atStart => exact ⟨0, gU, cU, Nat.zero_le _, rfl, rfl, by simpa using BU⟩
        case round =>
          obtain ⟨j, gy, cy, hj, rfl, rfl, hBy⟩ := hrel
          by_cases hjl : j < zl
          · obtain ⟨y, hy⟩ : ∃ y, zs[j]? = some y := ⟨_, List.getElem?_eq_getElem (by have := Hzl.out; omega)⟩
            obtain ⟨ba, oa, rfl, hcy⟩ := Hc.out j y hy
            have hyr := Hr.out y (List.mem_of_getElem? hy)
            have hcy2 : wr.cell? ⟨ba, oa + j, none⟩ = some (.int .u32 y) := by
              have hb := World.block_lt_of_cell? w _ hcy
              rw [World.cell?_of_block (hBy.bel.block ba (by simp only at hb; omega)), World.cell?_of_block (HW.out.block ba hb)]
              exact hcy
            have hbly : ba < wr.heap.size := World.block_lt_of_cell? wr _ hcy2
            have hji : (j : Int) < (zl : Int) := by omega
            have Hy : Hid (zs[j]? = some y) := hy
            have HBy : Hid _ := hBy
            clear hy hcy hBy
            go_wp2_with (go_at_call 21; go_must (refine (append32_any (w.heap.size + 3) (nU + 4 * j) y _ _ wr hyr.1 hyr.2 (by omega) HBy.out.hb HBy.out.own).mono ?_; rintro e wV ⟨gV, cV, rfl, oV, grV⟩))
            go_roundw
            case rel =>
              refine ⟨j + 1, gV, cV, by omega, by go_num, by rw [show nU + 4 * (j + 1) = nU + 4 * j + 4 by omega], ?_⟩
              have hfin := HBy.out.next grV oV
              rw [show nU + 4 * (j + 1) = nU + 4 * j + 4 by omega]
              have e1 : zs.take (j + 1) = zs.take j ++ [y] := by rw [List.take_add_one, Hy.out]; rfl
              rw [e1]
              simpa [List.append_assoc] using hfin
            case measure => simp [intOf]; omega
          · obtain rfl : j = zl := by omega
            go_wp2_with fail
            go_roundw
            case rel =>
              refine ⟨x + 1, nU + 4 * j, gy, cy, by omega, by go_num, rfl, by omega, ?_⟩
              have hfin := hBy
              rw [List.take_of_length_le (by rw [Hzl.out]; exact Nat.le_refl _)] at hfin
              rw [enc_next Hzs.out.2 false, ← Hzs.out.1, ← Hpx.out, ← List.append_assoc, ← HL0.out]
              rw [HLU.out, HLS.out] at hfin
              have hzz : ¬ zs.length = 0 := by rw [← Hzl.out]; exact hz
              have e1 : attrLen zs = 5 + 4 * zs.length := by simp [attrLen, hzz]
              have e2 : attrBytes zs = [64, 2, 2 + 4 * (zs.length : Int), 2, (zs.length : Int)] ++ zs.flatMap be32 := by simp [attrBytes, hzz]
              rw [e1, e2]
              simpa [encHead, List.append_assoc] using hfin
            case measure => simp [intOf]; omega
    · obtain rfl : x = E.length := by omega
      have R19 := (hB.bel.block (w.heap.size + 1 + 1) (by omega)).trans H19.out
      have R15 := (hB.bel.block (w.heap.size + 1) (by omega)).trans H15.out
      obtain ⟨a0, a1, a2, a3, _⟩ := row4 R19
      obtain ⟨b0, b1, b2, b3, bf⟩ := row4 R15
      have bf0 := bf 0
      have bf1 := bf 1
      have bf2 := bf 2
      have bf3 := bf 3
      have hgw : w.grownBy wr none := ⟨hB.bel.os.trans HW.out.os, hB.bel.tape.trans HW.out.tape, hB.bel.output.trans HW.out.output, Nat.le_trans HW.out.size hB.bel.size, fun i hi _ => (hB.bel.block i (by omega)).trans (HW.out.block i hi)⟩
      have hgv : w.heap.size + 3 ≤ gv := (hB.own.lt gv rfl).1
      have HB : Hid _ := hB
      have HR15 : Hid _ := R15
      clear hB bf R19 R15
      go_wp2_with fail
      go_region
      go_wp2_with fail
      obtain ⟨v0, v1, v2, v3, _⟩ := row4 (set4 (x := .string ⟨#[97]⟩) (y := .int .u16 1) (z := .int .u8 1) (t := .bool false) HR15.out)
      have gF := grown_set1 (u := .bool false) (j := 3) (grown_set1 (u := .int .u8 1) (j := 2) (grown_set1 (u := .int .u16 1) (j := 1) (grown_set1 (u := .string ⟨#[97]⟩) (j := 0) (grown_self wr (w.heap.size + 1)))))
      refine bodyPost_ret (v := .tuple #[.slice (some ⟨gv, 0, none⟩) n cv, .agg #[.string ⟨#[97]⟩, .int .u16 1, .int .u8 1, .bool false], .int .u16 1, .bool true, .int .i64 m]) (by simp [results, Ybaf.f10, go_sem, v0, v1, v2, v3]) rfl ⟨gv, n, cv, rfl, by omega, ?_, ?_⟩
      · have h1 := own_base (own_grown HB.out.own gF (by simp only [Value.ownBlock, ne_eq, Option.some.injEq]; omega)) (show w.heap.size ≤ w.heap.size + 3 by omega)
        rw [List.take_length, Hpre.out] at h1
        have h2 := h1.kept (grown_drew _ none) (by simp [Value.ownBlock])
        simp only [List.append_assoc] at h2
        exact h2
      · exact grown_drew' (grown_set (grown_set (grown_set (grown_set hgw (by omega)) (by omega)) (by omega)) (by omega))

set_option maxRecDepth 100000 in
set_option maxHeartbeats 8000000 in
theorem build_0_true (sel seq bits : Int) (f : Nat → Int) (p : Option Go.Addr) (cE np : Nat) (E : List (Nat × List Int)) (w : World) (hs0 : 0 ≤ sel) (hs1 : sel ≤ 255) (hsel : sel % 6 = 0) (hq0 : 0 ≤ seq) (hq1 : seq ≤ 4294967295) (hb0 : 0 ≤ bits) (hb1 : bits ≤ 255)
    (hE : EntMem w p E) (hEl : E.length ≤ 300) (hnp : 0 < np) (hnp1 : np ≤ 65536) (m : Nat) (hm : (m : Int) = bits % 33) (kk : Nat) (hkk : kk = (m + 7) / 8) :
    Calls Ybaf.prog 10 #[.int .u8 sel, .bool true, .int .u32 seq, .int .u8 bits, .agg #[.int .u8 (f 0), .int .u8 (f 1), .int .u8 (f 2), .int .u8 (f 3), .int .u8 (f 4), .int .u8 (f 5), .int .u8 (f 6), .int .u8 (f 7), .int .u8 (f 8), .int .u8 (f 9), .int .u8 (f 10), .int .u8 (f 11), .int .u8 (f 12), .int .u8 (f 13), .int .u8 (f 14), .int .u8 (f 15)], .slice p E.length cE, .int .i64 np] w fun e w' => ∃ g n cap,
      e = .returned (.tuple #[.slice (some ⟨g, 0, none⟩) n cap, .agg #[.string ⟨#[97]⟩, .int .u16 1, .int .u8 1, .bool true], .int .u16 1, .bool true, .int .i64 m]) ∧ w.heap.size ≤ g ∧
      w'.ownsRow w.heap.size 5 1 (.slice (some ⟨g, 0, none⟩) n cap) n (bcells (be32 seq ++ (([] : List Int) ++ ([(m : Int)] ++ (((List.range kk).map f) ++ (be16 (E.length : Int) ++ encAll true (E.map (entOf np)))))))) ∧ w.grownBy w' none := by
  have hs2 : sel.tmod 6 = 0 := by rw [Int.tmod_eq_emod_of_nonneg hs0]; exact hsel
  have hmb : bits.tmod 33 = (m : Int) := by rw [Int.tmod_eq_emod_of_nonneg hb0, hm]
  have hml : m ≤ 32 := by omega
  have hk16 : kk ≤ 16 := by omega
  have hkd : ((m : Int) + 7).tdiv 8 = (kk : Int) := by rw [Int.tdiv_eq_ediv_of_nonneg (by omega)]; omega
  have Hkk : Hid (kk = (m + 7) / 8) := hkk
  have Hm : Hid ((m : Int) = bits % 33) := hm
  clear hkk hm hsel
  have gA := grown_then (@grown2 w (.cells #[.int .u8 (f 0), .int .u8 (f 1), .int .u8 (f 2), .int .u8 (f 3), .int .u8 (f 4), .int .u8 (f 5), .int .u8 (f 6), .int .u8 (f 7), .int .u8 (f 8), .int .u8 (f 9), .int .u8 (f 10), .int .u8 (f 11), .int .u8 (f 12), .int .u8 (f 13), .int .u8 (f 14), .int .u8 (f 15)] 28) (.cells #[.string ⟨#[]⟩, .int .u16 0, .int .u8 0, .bool false] 34)) (World.grownBy_alloc _ (.cells #[.string ⟨#[]⟩, .int .u16 0, .int .u8 0, .bool false] 34) none)
  have n0 := World.ownsRow_nil (((w.alloc (.cells #[.int .u8 (f 0), .int .u8 (f 1), .int .u8 (f 2), .int .u8 (f 3), .int .u8 (f 4), .int .u8 (f 5), .int .u8 (f 6), .int .u8 (f 7), .int .u8 (f 8), .int .u8 (f 9), .int .u8 (f 10), .int .u8 (f 11), .int .u8 (f 12), .int .u8 (f 13), .int .u8 (f 14), .int .u8 (f 15)] 28)).alloc (.cells #[.string ⟨#[]⟩, .int .u16 0, .int .u8 0, .bool false] 34)).alloc (.cells #[.string ⟨#[]⟩, .int .u16 0, .int .u8 0, .bool false] 34)) (w.heap.size + 3) 5 1
  go_enter Ybaf.func10, Ybaf.ntmps10
  obtain ⟨WA, hWA⟩ : ∃ WA, WA = (((w.alloc (.cells #[.int .u8 (f 0), .int .u8 (f 1), .int .u8 (f 2), .int .u8 (f 3), .int .u8 (f 4), .int .u8 (f 5), .int .u8 (f 6), .int .u8 (f 7), .int .u8 (f 8), .int .u8 (f 9), .int .u8 (f 10), .int .u8 (f 11), .int .u8 (f 12), .int .u8 (f 13), .int .u8 (f 14), .int .u8 (f 15)] 28)).alloc (.cells #[.string ⟨#[]⟩, .int .u16 0, .int .u8 0, .bool false] 34)).alloc (.cells #[.string ⟨#[]⟩, .int .u16 0, .int .u8 0, .bool false] 34)) := ⟨_, rfl⟩
  have z11 : WA.heap[w.heap.size]? = some (.cells #[.int .u8 (f 0), .int .u8 (f 1), .int .u8 (f 2), .int .u8 (f 3), .int .u8 (f 4), .int .u8 (f 5), .int .u8 (f 6), .int .u8 (f 7), .int .u8 (f 8), .int .u8 (f 9), .int .u8 (f 10), .int .u8 (f 11), .int .u8 (f 12), .int .u8 (f 13), .int .u8 (f 14), .int .u8 (f 15)] 28 (0, 0)) := by rw [hWA]; exact row_grown (heap_alloc_new w _) (grown2 _ _)
  have z15 : WA.heap[w.heap.size + 1]? = some (.cells #[.string ⟨#[]⟩, .int .u16 0, .int .u8 0, .bool false] 34 (0, 0)) := by rw [hWA, ← World.size_alloc w (.cells #[.int .u8 (f 0), .int .u8 (f 1), .int .u8 (f 2), .int .u8 (f 3), .int .u8 (f 4), .int .u8 (f 5), .int .u8 (f 6), .int .u8 (f 7), .int .u8 (f 8), .int .u8 (f 9), .int .u8 (f 10), .int .u8 (f 11), .int .u8 (f 12), .int .u8 (f 13), .int .u8 (f 14), .int .u8 (f 15)] 28)]; exact row_grown (heap_alloc_new _ _) (World.grownBy_alloc _ _ none)
  have z19 : WA.heap[w.heap.size + 1 + 1]? = some (.cells #[.string ⟨#[]⟩, .int .u16 0, .int .u8 0, .bool false] 34 (0, 0)) := by rw [hWA, ← World.size_alloc w (.cells #[.int .u8 (f 0), .int .u8 (f 1), .int .u8 (f 2), .int .u8 (f 3), .int .u8 (f 4), .int .u8 (f 5), .int .u8 (f 6), .int .u8 (f 7), .int .u8 (f 8), .int .u8 (f 9), .int .u8 (f 10), .int .u8 (f 11), .int .u8 (f 12), .int .u8 (f 13), .int .u8 (f 14), .int .u8 (f 15)] 28), ← World.size_alloc _ (.cells #[.string ⟨#[]⟩, .int .u16 0, .int .u8 0, .bool false] 34)]; exact heap_alloc_new _ _
  have hWs : WA.heap.size = w.heap.size + 3 := by rw [hWA]; simp
  rw [← hWA] at gA n0
  go_wp2_with fail
  rw [← hWA]
  clear hWA
  refine (append32_any (w.heap.size + 3) 0 seq (.slice none 0 0) [] WA hq0 hq1 (by omega) (by omega) n0).mono ?_
  rintro e w1 ⟨g1, c1, rfl, o1, g1'⟩
  replace g1' : WA.grownBy w1 none := g1'
  have y11 := row_grown z11 g1'
  have y15 := row_grown z15 g1'
  have y19 := row_grown z19 g1'
  obtain ⟨k0, k1, k2, k3, kf⟩ := row4 y19
  have kz := kf 0
  have ky := kf 1
  have kx := kf 2
  have ku := kf 3
  have gB := grown_then gA g1'
  have hb1s : w.heap.size + 3 ≤ w1.heap.size := by have := g1'.size; omega
  clear z11 z15 z19 n0 g1' kf gA
  go_upto_region 32 with fail
  have s19 : ((((w1.setCell ⟨w.heap.size + 1 + 1, 0, none⟩ (.string ⟨#[97]⟩)).setCell ⟨w.heap.size + 1 + 1, 1, none⟩ (.int .u16 1)).setCell ⟨w.heap.size + 1 + 1, 2, none⟩ (.int .u8 1)).setCell ⟨w.heap.size + 1 + 1, 3, none⟩ (.bool false)).heap[w.heap.size + 1 + 1]? = some (.cells #[.string ⟨#[97]⟩, .int .u16 1, .int .u8 1, .bool false] 34 (0, 0)) := set4 y19
  have gS : w1.grownBy ((((w1.setCell ⟨w.heap.size + 1 + 1, 0, none⟩ (.string ⟨#[97]⟩)).setCell ⟨w.heap.size + 1 + 1, 1, none⟩ (.int .u16 1)).setCell ⟨w.heap.size + 1 + 1, 2, none⟩ (.int .u8 1)).setCell ⟨w.heap.size + 1 + 1, 3, none⟩ (.bool false)) (some (w.heap.size + 1 + 1)) := grown_set1 (grown_set1 (grown_set1 (grown_set1 (grown_self w1 _))))
  obtain ⟨w2, hw2⟩ : ∃ w2, w2 = ((((w1.setCell ⟨w.heap.size + 1 + 1, 0, none⟩ (.string ⟨#[97]⟩)).setCell ⟨w.heap.size + 1 + 1, 1, none⟩ (.int .u16 1)).setCell ⟨w.heap.size + 1 + 1, 2, none⟩ (.int .u8 1)).setCell ⟨w.heap.size + 1 + 1, 3, none⟩ (.bool false)) := ⟨_, rfl⟩
  rw [← hw2] at s19 gS ⊢
  have gO1 : w.heap.size + 3 ≤ g1 := (o1.lt g1 rfl).1
  have o2 := own_grown o1 gS (by simp only [Value.ownBlock, ne_eq, Option.some.injEq]; omega)
  have x11 : w2.heap[w.heap.size]? = _ := (gS.block w.heap.size (by omega) (by simp only [ne_eq, Option.some.injEq]; omega)).trans y11
  have x15 : w2.heap[w.heap.size + 1]? = _ := (gS.block (w.heap.size + 1) (by omega) (by simp only [ne_eq, Option.some.injEq]; omega)).trans y15
  have bel2 : Below w.heap.size w w2 := ⟨gS.os.trans gB.os, gS.tape.trans gB.tape, gS.output.trans gB.output, Nat.le_trans gB.size gS.size, fun i hi => (gS.block i (Nat.lt_of_lt_of_le hi gB.size) (by simp only [ne_eq, Option.some.injEq]; omega)).trans (gB.block i hi (by simp))⟩
  have hz2 : w.heap.size + 3 ≤ w2.heap.size := Nat.le_trans hb1s gS.size
  have k3' : w2.cell? ⟨w.heap.size + 1 + 1, 3, none⟩ = some (.bool false) := (row4 s19).2.2.2.1
  have kf' : w2.frozen? ⟨w.heap.size + 1 + 1, 3, none⟩ = false := (row4 s19).2.2.2.2 3
  clear hw2 gS y11 y15 y19 k0 k1 k2 k3 kz ky kx ku o1 gB hb1s
  have B2 : Bod w2 w2 (w.heap.size + 3) (.slice (some ⟨g1, 0, none⟩) 4 c1) 4 (be32 seq) := ⟨hz2, o2, Below.refl _ _⟩
  clear o2
  obtain ⟨wH, hwH⟩ : ∃ wH, wH = w2 := ⟨_, rfl⟩
  obtain ⟨gH, hgH⟩ : ∃ gH, gH = g1 := ⟨_, rfl⟩
  obtain ⟨cH, hcH⟩ : ∃ cH, cH = c1 := ⟨_, rfl⟩
  subst hgH hcH
  have BH : Bod w2 wH (w.heap.size + 3) (.slice (some ⟨gH, 0, none⟩) 4 cH) 4 (be32 seq ++ ([] : List Int)) := by rw [hwH, List.append_nil]; exact B2
  rw [← hwH]
  clear B2 hwH
  have e11 := (BH.bel.block w.heap.size (by omega)).trans x11
  have e15 := (BH.bel.block (w.heap.size + 1) (by omega)).trans x15
  have e19 := (BH.bel.block (w.heap.size + 1 + 1) (by omega)).trans s19
  have j3 := (row4 e19).2.2.2.1
  have jf := (row4 e19).2.2.2.2 3
  have belH : Below w.heap.size w wH := bel2.trans ⟨BH.bel.os, BH.bel.tape, BH.bel.output, BH.bel.size, fun i hi => BH.bel.block i (by omega)⟩
  go_upto_region 37 with fail
  have f19 := heap_setCell_same wH (w.heap.size + 1 + 1) 3 _ 34 (.bool true) e19
  have gI := grown_set1 (u := .bool true) (j := 3) (grown_self wH (w.heap.size + 1 + 1))
  obtain ⟨wI, hwI⟩ : ∃ wI, wI = wH.setCell ⟨w.heap.size + 1 + 1, 3, none⟩ (.bool true) := ⟨_, rfl⟩
  rw [← hwI] at f19 gI ⊢
  replace f19 : wI.heap[w.heap.size + 1 + 1]? = some (.cells #[.string ⟨#[97]⟩, .int .u16 1, .int .u8 1, .bool true] 34 (0, 0)) := f19
  have hBHl : w.heap.size + 3 ≤ wH.heap.size := BH.hb
  have f11 := (gI.block w.heap.size (by omega) (by simp only [ne_eq, Option.some.injEq]; omega)).trans e11
  have f15 := (gI.block (w.heap.size + 1) (by omega) (by simp only [ne_eq, Option.some.injEq]; omega)).trans e15
  have belI : Below w.heap.size w wI := belH.trans ⟨gI.os, gI.tape, gI.output, gI.size, fun i hi => gI.block i (by omega) (by simp only [ne_eq, Option.some.injEq]; omega)⟩
  have hgH : w.heap.size + 3 ≤ gH := (BH.own.lt gH rfl).1
  have BI : Bod wI wI (w.heap.size + 3) (.slice (some ⟨gH, 0, none⟩) 4 cH) 4 (be32 seq ++ ([] : List Int)) := ⟨Nat.le_trans BH.hb gI.size, own_grown BH.own gI (by simp only [Value.ownBlock, ne_eq, Option.some.injEq]; omega), Below.refl _ _⟩
  clear hwI gI BH e11 e15 e19 j3 jf belH x11 x15 s19 k3' kf' hBHl hz2 bel2 gO1
  have hwm : IntKind.u8.wrap (m : Int) = (m : Int) := by simp [IntKind.wrap, IntKind.bits, IntKind.signed]; omega
  have hoA := BI.own.alloc (.cells #[.int .u8 (m : Int)] 5)
  have hbI : w.heap.size + 3 ≤ (wI.alloc (.cells #[.int .u8 (m : Int)] 5)).heap.size := by have := BI.hb; simp; omega
  go_upto_region 39 with (at_builtin; go_must (refine wpList_append_own _ rfl _ _ _ rfl (w.heap.size + 3) 5 Ybaf.t5 (.int .u8 0) 1 1 Ybaf.underlying31 Ybaf.info5 rfl rfl rfl rfl (by omega) (.slice (some ⟨gH, 0, none⟩) 4 cH) (4) (bcells (be32 seq ++ ([] : List Int))) rfl hoA ⟨wI.heap.size, 0, none⟩ (1) (1) [.int .u8 (m : Int)] rfl (by rfl) (World.news_of_block (heap_alloc_new _ _)) (by simp [Value.oneCell']) (by unfold maxLen; omega) (by omega) hbI ?_); intro voJ wJ oJ grJ _; obtain ⟨gJ, cJ, rfl, _⟩ := own_some oJ (by omega))
  have BJ : Bod wI wJ (w.heap.size + 3) (.slice (some ⟨gJ, 0, none⟩) 5 cJ) 5 (be32 seq ++ ([] : List Int) ++ [(m : Int)]) := (BI.grown (World.grownBy_alloc wI (.cells #[.int .u8 (m : Int)] 5) none)).next grJ (by rw [bcells_append]; exact oJ)
  have hnews : ∀ j u, (bcells ((List.range kk).map f))[j]? = some u → wJ.cell? ((⟨w.heap.size, 0, none⟩ : Go.Addr).add j) = some u := by
    intro j u hj
    rw [add_off, World.cell?_of_block (a := ⟨w.heap.size, 0 + j, none⟩) (BJ.bel.block w.heap.size (by omega))]
    exact arr_cell f11 hk16 hj
  have q1 : (kk : Int) ≤ 16 := by omega
  have q2 : (0 : Int) ≤ (kk : Int) := by omega
  have q3 : IntKind.u16.wrap (E.length : Int) = (E.length : Int) := by simp [IntKind.wrap, IntKind.bits, IntKind.signed]; omega
  clear hoA hbI oJ grJ BI
  go_upto_region 40 with (at_builtin; go_must (refine wpList_append_own _ rfl _ _ _ rfl (w.heap.size + 3) 5 Ybaf.t5 (.int .u8 0) 1 1 Ybaf.underlying31 Ybaf.info5 rfl rfl rfl rfl (by omega) (.slice (some ⟨gJ, 0, none⟩) 5 cJ) (5) (bcells (be32 seq ++ ([] : List Int) ++ [(m : Int)])) rfl BJ.own ⟨w.heap.size, 0, none⟩ (kk) (16) (bcells ((List.range kk).map f)) rfl (by simp [bcells]) hnews (bcells_one _) (by unfold maxLen; omega) (by omega) BJ.hb ?_); intro voM wM oM grM _; obtain ⟨gM, cM, rfl, _⟩ := own_some oM (by omega))
  have BM : Bod wI wM (w.heap.size + 3) (.slice (some ⟨gM, 0, none⟩) (5 + kk) cM) (5 + kk) (be32 seq ++ ([] : List Int) ++ [(m : Int)] ++ (List.range kk).map f) := BJ.next grM (by rw [bcells_append]; exact oM)
  clear oM grM BJ hnews
  go_upto_region 41 with (go_at_call 22; go_must (refine (append16_any (w.heap.size + 3) (5 + kk) (E.length : Int) _ _ wM (by omega) (by omega) (by omega) BM.hb BM.own).mono ?_; rintro e wN ⟨gN, cN, rfl, oN, grN⟩))
  have BN : Bod wI wN (w.heap.size + 3) (.slice (some ⟨gN, 0, none⟩) (5 + kk + 2) cN) (5 + kk + 2) (be32 seq ++ ([] : List Int) ++ [(m : Int)] ++ (List.range kk).map f ++ be16 (E.length : Int)) := BM.next grN oN
  clear oN grN BM
  obtain ⟨pre, hpre⟩ : ∃ pre, pre = be32 seq ++ ([] : List Int) ++ [(m : Int)] ++ (List.range kk).map f ++ be16 (E.length : Int) := ⟨_, rfl⟩
  rw [← hpre] at BN
  have Hpre : Hid (pre = be32 seq ++ ([] : List Int) ++ [(m : Int)] ++ (List.range kk).map f ++ be16 (E.length : Int)) := hpre
  obtain ⟨npre, hnpre⟩ : ∃ npre, npre = 5 + kk + 2 := ⟨_, rfl⟩
  rw [← hnpre] at BN ⊢
  have hpre30 : npre ≤ 30 := by omega
  clear hpre hnpre
  go_wp2_with fail
  have HE : Hid (EntMem w p E) := hE
  have HW : Hid (Below w.heap.size w wI) := belI
  have H19 : Hid (wI.heap[w.heap.size + 1 + 1]? = some (.cells #[.string ⟨#[97]⟩, .int .u16 1, .int .u8 1, .bool true] 34 (0, 0))) := f19
  have H15 : Hid (wI.heap[w.heap.size + 1]? = some (.cells #[.string ⟨#[]⟩, .int .u16 0, .int .u8 0, .bool false] 34 (0, 0))) := f15
  have r0 : (0 : Int) < (np : Int) := by omega
  clear hE belI f19 f15 f11
  go_loopw [23, 97] (fun b i wr => ∃ (x n gv cv : Nat), x ≤ E.length ∧ i = .int .i64 x ∧ b = .slice (some ⟨gv, 0, none⟩) n cv ∧ n ≤ 30 + 269 * x ∧ Bod wI wr (w.heap.size + 3) (.slice (some ⟨gv, 0, none⟩) n cv) n (pre ++ encAll true ((E.take x).map (entOf np)))) (fun _ i _ => E.length - (intOf i).toNat)
  case atStart => exact ⟨0, npre, gN, cN, Nat.zero_le _, rfl, rfl, by omega, by simpa [encAll] using BN⟩
  case round =>
    obtain ⟨x, n, gv, cv, hx, rfl, rfl, hnb, hB⟩ := hrel
    by_cases hlt : x < E.length
    · obtain ⟨pe, hpe⟩ : ∃ pe, E[x]? = some pe := ⟨_, List.getElem?_eq_getElem hlt⟩
      have hcell : ∀ a v, w.cell? a = some v → wr.cell? a = some v := fun a v h => by
        have hb := World.block_lt_of_cell? w a h
        rw [World.cell?_of_block (hB.bel.block a.block (by omega)), World.cell?_of_block (HW.out.block a.block hb)]
        exact h
      obtain ⟨hp1, hp2, hp3, b, off, pa, ca, rfl, e2', e3', e4, e5⟩ := HE.out x pe hpe
      have e2 := hcell _ _ e2'
      have e3 := hcell _ _ e3'
      rw [Nat.mul_comm 2 x] at e2 e3
      have hbl : b < wr.heap.size := World.block_lt_of_cell? wr _ e2
      obtain ⟨pr, la⟩ := pe
      simp only at hp1 hp2 hp3 e2 e3 e4 e5
      obtain ⟨zs, hzs⟩ : ∃ zs, zs = la.take 63 := ⟨_, rfl⟩
      have hal : min la.length 63 = zs.length := by rw [hzs, List.length_take]; omega
      have hz63 : zs.length ≤ 63 := by omega
      have Hzs : Hid (zs = la.take 63 ∧ E[x]? = some (pr, la)) := ⟨hzs, hpe⟩
      have Hr : Hid (∀ x ∈ zs, 0 ≤ x ∧ x ≤ 4294967295) := fun x hx => hp3 x (by rw [hzs] at hx; exact List.mem_of_mem_take hx)
      have Hc : Hid (∀ j x, zs[j]? = some x → ∃ ba oa, pa = some ⟨ba, oa, none⟩ ∧ w.cell? ⟨ba, oa + j, none⟩ = some (.int .u32 x)) := by
        intro j y hj
        refine e5 j y ?_
        rw [hzs, List.getElem?_take] at hj
        split at hj
        · exact hj
        · cases hj
      obtain ⟨px, hpx⟩ : ∃ px, px = pr % np := ⟨_, rfl⟩
      have hpxl : px ≤ 65535 := by rw [hpx]; exact Nat.le_trans (Nat.mod_le _ _) hp1
      have t1 : (pr : Int).tmod (np : Int) = (px : Int) := by rw [Int.tmod_eq_emod_of_nonneg (by omega), hpx]; omega
      have t2 : IntKind.u16.wrap (px : Int) = (px : Int) := by simp [IntKind.wrap, IntKind.bits, IntKind.signed]; omega
      have Hpx : Hid (px = pr % np) := hpx
      have xi : (x : Int) < (E.length : Int) := by omega
      have B1 := hB.grown (World.grownBy_alloc wr (.cells #[.int .u16 (pr : Int), .slice pa la.length ca] 63) none)
      have R1 := heap_alloc_new wr (.cells #[.int .u16 (pr : Int), .slice pa la.length ca] 63)
      obtain ⟨e28, he28⟩ : ∃ e28, e28 = wr.heap.size := ⟨_, rfl⟩
      clear hpe hzs e5 hp3 hcell e2' e3' hpx hB
      go_upto_region 48 with (go_at_call 22; go_must (refine (append16_any (w.heap.size + 3) n (px : Int) _ _ _ (by omega) (by omega) (by omega) B1.hb B1.own).mono ?_; rintro e wO ⟨gO, cO, rfl, oO, grO⟩))
      have ne1 := own_ne B1.own R1
      have BO := B1.next grO oO
      have RO := (grO.block wr.heap.size (by simp) (by simp only [Value.ownBlock, ne_eq, Option.some.injEq]; exact fun h => ne1 h.symm)).trans R1
      obtain ⟨L0, hL0⟩ : ∃ L0, L0 = pre ++ encAll true (List.map (entOf np) (List.take x E)) := ⟨_, rfl⟩
      have HL0 : Hid (L0 = pre ++ encAll true (List.map (entOf np) (List.take x E))) := hL0
      rw [← hL0] at BO
      rw [← he28] at RO ⊢
      have he28l : e28 < wO.heap.size := (Array.getElem?_eq_some_iff.1 RO).1
      clear B1 R1 oO grO ne1 hL0 e2 e3 hbl he28
      have hoO := BO.own.alloc (.cells #[.int .u8 0, .int .u8 0, .int .u8 0, .int .u8 0] 5)
      have hbO : w.heap.size + 3 ≤ (wO.alloc (.cells #[.int .u8 0, .int .u8 0, .int .u8 0, .int .u8 0] 5)).heap.size := by have := BO.hb; simp; omega
      go_upto_region 49 with (at_builtin; go_must (refine wpList_append_own _ rfl _ _ _ rfl (w.heap.size + 3) 5 Ybaf.t5 (.int .u8 0) 1 1 Ybaf.underlying31 Ybaf.info5 rfl rfl rfl rfl (by omega) (.slice (some ⟨gO, 0, none⟩) (n + 2) cO) (n + 2) (bcells (L0 ++ be16 (px : Int))) rfl hoO ⟨wO.heap.size, 0, none⟩ (4) (4) [.int .u8 0, .int .u8 0, .int .u8 0, .int .u8 0] rfl (by rfl) (World.news_of_block (heap_alloc_new _ _)) (by simp [Value.oneCell']) (by unfold maxLen; omega) (by omega) hbO ?_); intro voP wP oP grP _; obtain ⟨gP, cP, rfl, _⟩ := own_some oP (by omega))
      have neP := own_ne BO.own RO
      have BP : Bod wI wP (w.heap.size + 3) (.slice (some ⟨gP, 0, none⟩) (n + 2 + 4) cP) (n + 2 + 4) (L0 ++ be16 (px : Int) ++ [0, 0, 0, 0]) := (BO.grown (World.grownBy_alloc wO (.cells #[.int .u8 0, .int .u8 0, .int .u8 0, .int .u8 0] 5) none)).next grP (by rw [bcells_append]; exact oP)
      have RP := (grP.block e28 (by simp; omega) (by simp only [Value.ownBlock, ne_eq, Option.some.injEq]; exact fun h => neP h.symm)).trans (row_grown RO (World.grownBy_alloc wO (.cells #[.int .u8 0, .int .u8 0, .int .u8 0, .int .u8 0] 5) none))
      clear BO RO hoO hbO oP grP neP he28l
      have hoP := BP.own.alloc (.cells #[.int .u8 0, .int .u8 0, .int .u8 0, .int .u8 0] 5)
      have hbP : w.heap.size + 3 ≤ (wP.alloc (.cells #[.int .u8 0, .int .u8 0, .int .u8 0, .int .u8 0] 5)).heap.size := by have := BP.hb; simp; omega
      have lP : e28 < wP.heap.size := (Array.getElem?_eq_some_iff.1 RP).1
      go_upto_region 51 with (at_builtin; go_must (refine wpList_append_own _ rfl _ _ _ rfl (w.heap.size + 3) 5 Ybaf.t5 (.int .u8 0) 1 1 Ybaf.underlying31 Ybaf.info5 rfl rfl rfl rfl (by omega) (.slice (some ⟨gP, 0, none⟩) (n + 2 + 4) cP) (n + 2 + 4) (bcells (L0 ++ be16 (px : Int) ++ [0, 0, 0, 0])) rfl hoP ⟨wP.heap.size, 0, none⟩ (4) (4) [.int .u8 0, .int .u8 0, .int .u8 0, .int .u8 0] rfl (by rfl) (World.news_of_block (heap_alloc_new _ _)) (by simp [Value.oneCell']) (by unfold maxLen; omega) (by omega) hbP ?_); intro voS wS oS grS _; obtain ⟨gS, cS, rfl, _⟩ := own_some oS (by omega))
      have neS := own_ne BP.own RP
      have BS : Bod wI wS (w.heap.size + 3) (.slice (some ⟨gS, 0, none⟩) (n + 2 + 4 + 4) cS) (n + 2 + 4 + 4) (L0 ++ (be16 (px : Int) ++ ([0, 0, 0, 0] ++ [0, 0, 0, 0]))) := by
        have h := (BP.grown (World.grownBy_alloc wP (.cells #[.int .u8 0, .int .u8 0, .int .u8 0, .int .u8 0] 5) none)).next (L' := L0 ++ be16 (px : Int) ++ [0, 0, 0, 0] ++ [0, 0, 0, 0]) grS (by rw [bcells_append]; exact oS)
        simpa only [List.append_assoc] using h
      have RS := (grS.block e28 (by simp; omega) (by simp only [Value.ownBlock, ne_eq, Option.some.injEq]; exact fun h => neS h.symm)).trans (row_grown RP (World.grownBy_alloc wP (.cells #[.int .u8 0, .int .u8 0, .int .u8 0, .int .u8 0] 5) none))
      clear BP RP hoP hbP oS grS neS lP
      have S0 := (row2 RS).1
      have S1 := (row2 RS).2
      have lS : e28 < wS.heap.size := (Array.getElem?_eq_some_iff.1 RS).1
      obtain ⟨nS, hnS⟩ : ∃ nS, nS = n + 2 + 4 + 4 := ⟨_, rfl⟩
      rw [← hnS] at BS ⊢
      have hnSb : nS ≤ n + 10 := by omega
      obtain ⟨LS, hLS⟩ : ∃ LS, LS = L0 ++ (be16 (px : Int) ++ ([0, 0, 0, 0] ++ [0, 0, 0, 0])) := ⟨_, rfl⟩
      rw [← hLS] at BS
      have HLS : Hid (LS = L0 ++ (be16 (px : Int) ++ ([0, 0, 0, 0] ++ [0, 0, 0, 0]))) := hLS
      have BS1 := BS.grown (World.grownBy_alloc wS (.cells #[.int .u16 (pr : Int), .slice pa la.length ca] 63) none)
      clear hnS hLS BS RS
      by_cases hz : zs.length = 0
      · have z1 : (zs.length : Int) = 0 := by omega
        have z2 : ((zs.length : Int) == 0) = true := by simp [hz]
        go_wp2_with (first
          | (go_at_call 16; go_must (refine (asns_any (pr : Int) pa la.length ca wS e4 hp2).mono ?_; rintro e w' ⟨rfl, rfl⟩; rw [hal]))
          | (go_at_call 22; go_must (refine (append16_any (w.heap.size + 3) nS 0 _ _ _ (by omega) (by omega) (by omega) BS1.hb BS1.own).mono ?_; rintro e wT ⟨gT, cT, rfl, oT, grT⟩)))
        go_roundw
        case rel =>
          refine ⟨x + 1, nS + 2, gT, cT, by omega, by go_num, rfl, by omega, ?_⟩
          have hfin := BS1.next grT oT
          rw [enc_next Hzs.out.2 true, ← Hzs.out.1, ← Hpx.out, ← List.append_assoc, ← HL0.out]
          rw [HLS.out] at hfin
          have e1 : attrLen zs = 0 := by simp [attrLen, hz]
          have e2 : attrBytes zs = [] := by simp [attrBytes, hz]
          rw [e1, e2]
          simpa [encHead] using hfin
        case measure => simp [intOf]; omega
      · have z1 : ¬ (zs.length : Int) = 0 := by omega
        have z2 : ((zs.length : Int) == 0) = false := by simp [hz]
        have z3 : IntKind.u8.wrap (2 + 4 * (zs.length : Int)) = 2 + 4 * (zs.length : Int) := by simp [IntKind.wrap, IntKind.bits, IntKind.signed]; omega
        have z4 : IntKind.u8.wrap (zs.length : Int) = (zs.length : Int) := by simp [IntKind.wrap, IntKind.bits, IntKind.signed]; omega
        go_upto_region 55 with (first
          | (go_at_call 16; go_must (refine (asns_any (pr : Int) pa la.length ca wS e4 hp2).mono ?_; rintro e w' ⟨rfl, rfl⟩; rw [hal]))
          | (go_at_call 22; go_must (refine (append16_any (w.heap.size + 3) nS (5 + 4 * (zs.length : Int)) _ _ _ (by omega) (by omega) (by omega) BS1.hb BS1.own).mono ?_; rintro e wT ⟨gT, cT, rfl, oT, grT⟩)))
        have BT := BS1.next grT oT
        have hoT := BT.own.alloc (.cells #[.int .u8 64, .int .u8 2, .int .u8 (2 + 4 * (zs.length : Int)), .int .u8 2, .int .u8 (zs.length : Int)] 5)
        have hbT : w.heap.size + 3 ≤ (wT.alloc (.cells #[.int .u8 64, .int .u8 2, .int .u8 (2 + 4 * (zs.length : Int)), .int .u8 2, .int .u8 (zs.length : Int)] 5)).heap.size := by have := BT.hb; simp; omega
        clear BS1 oT grT
        go_upto_region 56 with (at_builtin; go_must (refine wpList_append_own _ rfl _ _ _ rfl (w.heap.size + 3) 5 Ybaf.t5 (.int .u8 0) 1 1 Ybaf.underlying31 Ybaf.info5 rfl rfl rfl rfl (by omega) (.slice (some ⟨gT, 0, none⟩) (nS + 2) cT) (nS + 2) (bcells (LS ++ be16 (5 + 4 * (zs.length : Int)))) rfl hoT ⟨wT.heap.size, 0, none⟩ (5) (5) [.int .u8 64, .int .u8 2, .int .u8 (2 + 4 * (zs.length : Int)), .int .u8 2, .int .u8 (zs.length : Int)] rfl (by rfl) (World.news_of_block (heap_alloc_new _ _)) (by simp [Value.oneCell']) (by unfold maxLen; omega) (by omega) hbT ?_); intro voU wU oU grU _; obtain ⟨gU, cU, rfl, _⟩ := own_some oU (by omega))
        have BU : Bod wI wU (w.heap.size + 3) (.slice (some ⟨gU, 0, none⟩) (nS + 2 + 5) cU) (nS + 2 + 5) (LS ++ be16 (5 + 4 * (zs.length : Int)) ++ [64, 2, 2 + 4 * (zs.length : Int), 2, (zs.length : Int)]) := (BT.grown (World.grownBy_alloc wT (.cells #[.int .u8 64, .int .u8 2, .int .u8 (2 + 4 * (zs.length : Int)), .int .u8 2, .int .u8 (zs.length : Int)] 5) none)).next grU (by rw [bcells_append]; exact oU)
        obtain ⟨nU, hnU⟩ : ∃ nU, nU = nS + 2 + 5 := ⟨_, rfl⟩
        rw [← hnU] at BU ⊢
        have hnUb : nU ≤ n + 17 := by omega
        obtain ⟨LU, hLU⟩ : ∃ LU, LU = LS ++ be16 (5 + 4 * (zs.length : Int)) ++ [64, 2, 2 + 4 * (zs.length : Int), 2, (zs.length : Int)] := ⟨_, rfl⟩
        rw [← hLU] at BU
        have HLU : Hid (LU = LS ++ be16 (5 + 4 * (zs.length : Int)) ++ [64, 2, 2 + 4 * (zs.length : Int), 2, (zs.length : Int)]) := hLU
        clear BT hoT hbT oU grU hnU hLU S0 S1 lS
        go_wp2_with fail
        obtain ⟨zl, hzl⟩ : ∃ zl, zl = zs.length := ⟨_, rfl⟩
        have Hzl : Hid (zl = zs.length) := hzl
        rw [← hzl] at hz63 z1 z2 z3 z4 hz ⊢
        clear hzl hal
        go_loopw [23, 149] (fun b i wz => ∃ (j gy cy : Nat), j ≤ zl ∧ i = .int .i64 j ∧ b = .slice (some ⟨gy, 0, none⟩) (nU + 4 * j) cy ∧ Bod wI wz (w.heap.size + 3) (.slice (some ⟨gy, 0, none⟩) (nU + 4 * j) cy) (nU + 4 * j) (LU ++ (zs.take j).flatMap be32)) (fun _ i _ => zl - (intOf i).toNat)
        case atStart => exact ⟨0, gU, cU, Nat.zero_le _, rfl, rfl, by simpa using BU⟩
        case round =>
          obtain ⟨j, gy, cy, hj, rfl, rfl, hBy⟩ := hrel
          by_cases hjl : j < zl
          · obtain ⟨y, hy⟩ : ∃ y, zs[j]? = some y := ⟨_, List.getElem?_eq_getElem (by have := Hzl.out; omega)⟩
            obtain ⟨ba, oa, rfl, hcy⟩ := Hc.out j y hy
            have hyr := Hr.out y (List.mem_of_getElem? hy)
            have hcy2 : wr.cell? ⟨ba, oa + j, none⟩ = some (.int .u32 y) := by
              have hb := World.block_lt_of_cell? w _ hcy
              rw [World.cell?_of_block (hBy.bel.block ba (by simp only at hb; omega)), World.cell?_of_block (HW.out.block ba hb)]
              exact hcy
            have hbly : ba < wr.heap.size := World.block_lt_of_cell? wr _ hcy2
            have hji : (j : Int) < (zl : Int) := by omega
            have Hy : Hid (zs[j]? = some y) := hy
            have HBy : Hid _ := hBy
            clear hy hcy hBy
            go_wp2_with (go_at_call 21; go_must (refine (append32_any (w.heap.size + 3) (nU + 4 * j) y _ _ wr hyr.1 hyr.2 (by omega) HBy.out.hb HBy.out.own).mono ?_; rintro e wV ⟨gV, cV, rfl, oV, grV⟩))
            go_roundw
            case rel =>
              refine ⟨j + 1, gV, cV, by omega, by go_num, by rw [show nU + 4 * (j + 1) = nU + 4 * j + 4 by omega], ?_⟩
              have hfin := HBy.out.next grV oV
              rw [show nU + 4 * (j + 1) = nU + 4 * j + 4 by omega]
              have e1 : zs.take (j + 1) = zs.take j ++ [y] := by rw [List.take_add_one, Hy.out]; rfl
              rw [e1]
              simpa [List.append_assoc] using hfin
            case measure => simp [intOf]; omega
          · obtain rfl : j = zl := by omega
            go_wp2_with fail
            go_roundw
            case rel =>
              refine ⟨x + 1, nU + 4 * j, gy, cy, by omega, by go_num, rfl, by omega, ?_⟩
              have hfin := hBy
              rw [List.take_of_length_le (by rw [Hzl.out]; exact Nat.le_refl _)] at hfin
              rw [enc_next Hzs.out.2 true, ← Hzs.out.1, ← Hpx.out, ← List.append_assoc, ← HL0.out]
              rw [HLU.out, HLS.out] at hfin
              have hzz : ¬ zs.length = 0 := by rw [← Hzl.out]; exact hz
              have e1 : attrLen zs = 5 + 4 * zs.length := by simp [attrLen, hzz]
              have e2 : attrBytes zs = [64, 2, 2 + 4 * (zs.length : Int), 2, (zs.length : Int)] ++ zs.flatMap be32 := by simp [attrBytes, hzz]
              rw [e1, e2]
              simpa [encHead, List.append_assoc] using hfin
            case measure => simp [intOf]; omega
    · obtain rfl : x = E.length := by omega
      have R19 := (hB.bel.block (w.heap.size + 1 + 1) (by omega)).trans H19.out
      have R15 := (hB.bel.block (w.heap.size + 1) (by omega)).trans H15.out
      obtain ⟨a0, a1, a2, a3, _⟩ := row4 R19
      obtain ⟨b0, b1, b2, b3, bf⟩ := row4 R15
      have bf0 := bf 0
      have bf1 := bf 1
      have bf2 := bf 2
      have bf3 := bf 3
      have hgw : w.grownBy wr none := ⟨hB.bel.os.trans HW.out.os, hB.bel.tape.trans HW.out.tape, hB.bel.output.trans HW.out.output, Nat.le_trans HW.out.size hB.bel.size, fun i hi _ => (hB.bel.block i (by omega)).trans (HW.out.block i hi)⟩
      have hgv : w.heap.size + 3 ≤ gv := (hB.own.lt gv rfl).1
      have HB : Hid _ := hB
      have HR15 : Hid _ := R15
      clear hB bf R19 R15
      go_wp2_with fail
      go_region
      go_wp2_with fail
      obtain ⟨v0, v1, v2, v3, _⟩ := row4 (set4 (x := .string ⟨#[97]⟩) (y := .int .u16 1) (z := .int .u8 1) (t := .bool true) HR15.out)
      have gF := grown_set1 (u := .bool true) (j := 3) (grown_set1 (u := .int .u8 1) (j := 2) (grown_set1 (u := .int .u16 1) (j := 1) (grown_set1 (u := .string ⟨#[97]⟩) (j := 0) (grown_self wr (w.heap.size + 1)))))
      refine bodyPost_ret (v := .tuple #[.slice (some ⟨gv, 0, none⟩) n cv, .agg #[.string ⟨#[97]⟩, .int .u16 1, .int .u8 1, .bool true], .int .u16 1, .bool true, .int .i64 m]) (by simp [results, Ybaf.f10, go_sem, v0, v1, v2, v3]) rfl ⟨gv, n, cv, rfl, by omega, ?_, ?_⟩
      · have h1 := own_base (own_grown HB.out.own gF (by simp only [Value.ownBlock, ne_eq, Option.some.injEq]; omega)) (show w.heap.size ≤ w.heap.size + 3 by omega)
        rw [List.take_length, Hpre.out] at h1
        have h2 := h1.kept (grown_drew _ none) (by simp [Value.ownBlock])
        simp only [List.append_assoc] at h2
        exact h2
      · exact grown_drew' (grown_set (grown_set (grown_set (grown_set hgw (by omega)) (by omega)) (by omega)) (by omega))

theorem build_0 (ap : Bool) (sel seq bits : Int) (f : Nat → Int) (p : Option Go.Addr) (cE np : Nat) (E : List (Nat × List Int)) (w : World) (hs0 : 0 ≤ sel) (hs1 : sel ≤ 255) (hsel : sel % 6 = 0) (hq0 : 0 ≤ seq) (hq1 : seq ≤ 4294967295) (hb0 : 0 ≤ bits) (hb1 : bits ≤ 255)
    (hE : EntMem w p E) (hEl : E.length ≤ 300) (hnp : 0 < np) (hnp1 : np ≤ 65536) (m : Nat) (hm : (m : Int) = bits % 33) (kk : Nat) (hkk : kk = (m + 7) / 8) :
    Calls Ybaf.prog 10 #[.int .u8 sel, .bool ap, .int .u32 seq, .int .u8 bits, .agg #[.int .u8 (f 0), .int .u8 (f 1), .int .u8 (f 2), .int .u8 (f 3), .int .u8 (f 4), .int .u8 (f 5), .int .u8 (f 6), .int .u8 (f 7), .int .u8 (f 8), .int .u8 (f 9), .int .u8 (f 10), .int .u8 (f 11), .int .u8 (f 12), .int .u8 (f 13), .int .u8 (f 14), .int .u8 (f 15)], .slice p E.length cE, .int .i64 np] w fun e w' => ∃ g n cap,
      e = .returned (.tuple #[.slice (some ⟨g, 0, none⟩) n cap, .agg #[.string ⟨#[97]⟩, .int .u16 1, .int .u8 1, .bool ap], .int .u16 1, .bool true, .int .i64 m]) ∧ w.heap.size ≤ g ∧
      w'.ownsRow w.heap.size 5 1 (.slice (some ⟨g, 0, none⟩) n cap) n (bcells (be32 seq ++ (([] : List Int) ++ ([(m : Int)] ++ (((List.range kk).map f) ++ (be16 (E.length : Int) ++ encAll ap (E.map (entOf np)))))))) ∧ w.grownBy w' none := by
  cases ap
  · exact build_0_false sel seq bits f p cE np E w hs0 hs1 hsel hq0 hq1 hb0 hb1 hE hEl hnp hnp1 m hm kk hkk
  · exact build_0_true sel seq bits f p cE np E w hs0 hs1 hsel hq0 hq1 hb0 hb1 hE hEl hnp hnp1 m hm kk hkk
end Go.Proofs.YbulkaigaFmt
