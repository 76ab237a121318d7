import Derived.Test.YbulkaigaFmtLawBase
import Derived.Test.YbulkaigaFmtOrders
import Derived.Test.YbulkaigaFmtBuild3
import Derived.BigRegion
import Derived.Deep.CutRange
namespace Go.Proofs.YbulkaigaFmt
open Go.RowKit Go.Extern.Stop Go.Stop Go.Extern

set_option maxRecDepth 100000 in
set_option maxHeartbeats 8000000 in
theorem cut_3 (F : Interp) (a4 a6 : Go.Addr) (ap : Bool) (sel seq bits cut : Int) (f : Nat → Int) (p : Option Go.Addr) (cE : Nat) (E : List (Nat × List Int)) (w : World) (hF : F.answers w.tape) (hM : Marks w a4 a6) (hs0 : 0 ≤ sel) (hs1 : sel ≤ 255) (hsel : sel % 4 = 3) (hq0 : 0 ≤ seq) (hq1 : seq ≤ 4294967295) (hb0 : 0 ≤ bits) (hb1 : bits ≤ 255) (hc0 : 0 ≤ cut) (hc1 : cut ≤ 65535)
    (hf : ∀ i, 0 ≤ f i ∧ f i ≤ 255) (hE : EntMem w p E) (hEl : E.length ≤ 300) :
    Calls Ybaf.prog 6 #[.int .u8 sel, .bool ap, .int .u32 seq, .int .u8 bits, .agg #[.int .u8 (f 0), .int .u8 (f 1), .int .u8 (f 2), .int .u8 (f 3), .int .u8 (f 4), .int .u8 (f 5), .int .u8 (f 6), .int .u8 (f 7), .int .u8 (f 8), .int .u8 (f 9), .int .u8 (f 10), .int .u8 (f 11), .int .u8 (f 12), .int .u8 (f 13), .int .u8 (f 14), .int .u8 (f 15)], .slice p E.length cE, .int .u16 cut] w fun e w' => e = .returned (.bool true) ∧ Below w.heap.size w w' := by
  obtain ⟨cn, rfl⟩ : ∃ cn : Nat, cut = cn := ⟨cut.toNat, by omega⟩
  have t1 : sel.tmod 4 = 3 := by rw [Int.tmod_eq_emod_of_nonneg hs0]; exact hsel
  have t2 : ¬ (300 : Int) < (E.length : Int) := by omega
  go_enter Ybaf.func6, Ybaf.ntmps6
  go_wp2_with fail
  have gA := World.grownBy_alloc w (.cells #[.int .u8 (f 0), .int .u8 (f 1), .int .u8 (f 2), .int .u8 (f 3), .int .u8 (f 4), .int .u8 (f 5), .int .u8 (f 6), .int .u8 (f 7), .int .u8 (f 8), .int .u8 (f 9), .int .u8 (f 10), .int .u8 (f 11), .int .u8 (f 12), .int .u8 (f 13), .int .u8 (f 14), .int .u8 (f 15)] 28) none
  obtain ⟨m, hm⟩ : ∃ m : Nat, (m : Int) = bits % 129 := ⟨(bits % 129).toNat, by omega⟩
  obtain ⟨kk, hkk⟩ : ∃ kk, kk = (m + 7) / 8 := ⟨_, rfl⟩
  have hE1 : EntMem (w.alloc (.cells #[.int .u8 (f 0), .int .u8 (f 1), .int .u8 (f 2), .int .u8 (f 3), .int .u8 (f 4), .int .u8 (f 5), .int .u8 (f 6), .int .u8 (f 7), .int .u8 (f 8), .int .u8 (f 9), .int .u8 (f 10), .int .u8 (f 11), .int .u8 (f 12), .int .u8 (f 13), .int .u8 (f 14), .int .u8 (f 15)] 28)) p E := hE.cells (fun a v h => gA.cell h (by simp))
  have hB := build_3 ap 3 seq bits f p cE 1 E (w.alloc (.cells #[.int .u8 (f 0), .int .u8 (f 1), .int .u8 (f 2), .int .u8 (f 3), .int .u8 (f 4), .int .u8 (f 5), .int .u8 (f 6), .int .u8 (f 7), .int .u8 (f 8), .int .u8 (f 9), .int .u8 (f 10), .int .u8 (f 11), .int .u8 (f 12), .int .u8 (f 13), .int .u8 (f 14), .int .u8 (f 15)] 28)) (by omega) (by omega) (by omega) hq0 hq1 hb0 hb1 hE1 hEl (by omega) (by omega) m hm kk hkk
  rw [show ((1 : Nat) : Int) = 1 from rfl] at hB
  have HB : Hid _ := hB
  have Hm : Hid ((m : Int) = bits % 129 ∧ kk = (m + 7) / 8) := ⟨hm, hkk⟩
  clear hB hE1 hm hkk
  refine Calls.mono HB.out ?_
  rintro e wB ⟨g, n, cap, rfl, hg, oB, gB⟩
  have gAB := grown_then gA gB
  have hlen := oB.1
  rw [bcells_length] at hlen
  have hn0 : 0 < n := by simp [be32] at hlen; omega
  have hncap : n ≤ cap := own_cap oB
  obtain ⟨c, hc⟩ : ∃ c, c = cn % n := ⟨_, rfl⟩
  have hcn : c < n := by rw [hc]; exact Nat.mod_lt _ hn0
  have t3 : (cn : Int).tmod (n : Int) = (c : Int) := by rw [Int.tmod_eq_emod_of_nonneg hc0, hc]; omega
  have t4 : ¬ (n : Int) = 0 := by omega
  have t5 : ¬ n = 0 := by omega
  have hLB := own_lies oB
  have hgl : g < wB.heap.size := (oB.lt g rfl).2
  have Hlen : Hid (n = 7 + (1 + kk + (2 + (encAll ap (E.map (entOf 1))).length))) := by
    show n = _
    simp [be32, be16] at hlen
    omega
  have HE : Hid (EntMem w p E) := hE
  clear hc oB hlen HB hE
  go_wp2_with fail
  have gK := World.grownBy_alloc wB (.cells #[.string ⟨#[100]⟩, .int .u16 0, .int .u8 0, .bool ap] 34) none
  have gP := World.grownBy_alloc (wB.alloc (.cells #[.string ⟨#[100]⟩, .int .u16 0, .int .u8 0, .bool ap] 34)) (.cells #[.int .u32 5] 27) none
  have gR := World.grownBy_alloc ((wB.alloc (.cells #[.string ⟨#[100]⟩, .int .u16 0, .int .u8 0, .bool ap] 34)).alloc (.cells #[.int .u32 5] 27)) (.cells #[.pointer none, .int .i64 0, .bool false, .int .u8 0, .int .u8 0, .int .u8 0, .int .u8 0, .int .u8 0, .int .u8 0, .int .u8 0, .int .u8 0, .int .u8 0, .int .u8 0, .int .u8 0, .int .u8 0, .slice none 0 0, .slice none 0 0, .slice none 0 0, .slice none 0 0, .slice none 0 0, .int .i64 0, .slice (some ⟨wB.heap.size + 1, 0, none⟩) 1 1] 59) none
  have zK := row_grown (row_grown (heap_alloc_new wB (.cells #[.string ⟨#[100]⟩, .int .u16 0, .int .u8 0, .bool ap] 34)) gP) gR
  have zP := row_grown (heap_alloc_new (wB.alloc (.cells #[.string ⟨#[100]⟩, .int .u16 0, .int .u8 0, .bool ap] 34)) (.cells #[.int .u32 5] 27)) gR
  have zR := heap_alloc_new ((wB.alloc (.cells #[.string ⟨#[100]⟩, .int .u16 0, .int .u8 0, .bool ap] 34)).alloc (.cells #[.int .u32 5] 27)) (.cells #[.pointer none, .int .i64 0, .bool false, .int .u8 0, .int .u8 0, .int .u8 0, .int .u8 0, .int .u8 0, .int .u8 0, .int .u8 0, .int .u8 0, .int .u8 0, .int .u8 0, .int .u8 0, .int .u8 0, .slice none 0 0, .slice none 0 0, .slice none 0 0, .slice none 0 0, .slice none 0 0, .int .i64 0, .slice (some ⟨wB.heap.size + 1, 0, none⟩) 1 1] 59)
  rw [World.size_alloc] at zP
  rw [World.size_alloc, World.size_alloc] at zR
  have gW := grown_then gK (grown_then gP gR)
  obtain ⟨W, hW⟩ : ∃ W, W = (((wB.alloc (.cells #[.string ⟨#[100]⟩, .int .u16 0, .int .u8 0, .bool ap] 34)).alloc (.cells #[.int .u32 5] 27)).alloc (.cells #[.pointer none, .int .i64 0, .bool false, .int .u8 0, .int .u8 0, .int .u8 0, .int .u8 0, .int .u8 0, .int .u8 0, .int .u8 0, .int .u8 0, .int .u8 0, .int .u8 0, .int .u8 0, .int .u8 0, .slice none 0 0, .slice none 0 0, .slice none 0 0, .slice none 0 0, .slice none 0 0, .int .i64 0, .slice (some ⟨wB.heap.size + 1, 0, none⟩) 1 1] 59)) := ⟨_, rfl⟩
  rw [← hW] at zK zP zR gW ⊢
  clear hW gK gP gR
  obtain ⟨hRib0, h21⟩ := reader_rib (V := .slice none 0 0) (Pe := .slice (some ⟨wB.heap.size + 1, 0, none⟩) 1 1) (bV := W.heap.size) (nR := 0) (xR := []) zR (Nat.le_refl _) (World.ownsRow_nil _ _ _ _) (by simp [Value.ownBlock])
  have gD := grown_drew W none
  have gWD := grown_then gW gD
  have gAll := grown_then gAB gWD
  obtain ⟨k0, k1, k2, k3, _⟩ := row4 zK
  have lK : wB.heap.size < W.heap.size := (Array.getElem?_eq_some_iff.1 zK).1
  have lP : wB.heap.size + 1 < W.heap.size := (Array.getElem?_eq_some_iff.1 zP).1
  have hwB : w.heap.size ≤ wB.heap.size := gAB.size
  have hes : (E.map (entOf 1)).length = E.length := by simp
  have hrib := rib_head2 F a4 a6 W.heap.size W.heap.size (wB.heap.size + 1 + 1) St.fresh (.slice none 0 0) 0 [] g c cap (wB.heap.size + 1) 0 1 1 m kk (fun _ => 5) (E.map (entOf 1)) ((List.range kk).map f) seq ap ⟨#[100]⟩ W.drew
    (by rw [gAll.tape]; exact hF) (hM.grown gAll) (hRib0.grown gD) rfl rfl (by simp [St.fresh]) (by simp [St.fresh]) (by omega) (by rw [hes]; exact hEl)
    (by have := Hm.out.1; simp [pMax]; omega) Hm.out.2 (by simp) (by intro x hx; obtain ⟨i, _, rfl⟩ := List.mem_map.mp hx; exact hf i)
    (Nat.lt_of_lt_of_le hgl gWD.size) (out_none (by omega)) (by simp [Value.ownBlock]) (by rw [hes]; exact hLB.block (gWD.block g hgl (by simp)))
    (by have := Hlen.out; omega) (by have := Hlen.out; omega) (gD.cell h21 (by simp)) (by simpa using lP) (out_none (by omega)) (by simp [Value.ownBlock])
    (fun i hi => by
      have hi0 : i = 0 := by omega
      subst hi0
      have := cell_of_row W (wB.heap.size + 1) 0 _ 27 (0, 0) zP
      exact gD.cell (this.trans rfl) (by simp))
    (by
      intro e he
      obtain ⟨pe, hpe, rfl⟩ := List.mem_map.mp he
      obtain ⟨i, hi⟩ := List.mem_iff_getElem?.mp hpe
      obtain ⟨h1, _, h3, _⟩ := HE.out i pe hi
      refine ⟨by show pe.1 % 1 < 1; omega, by show pe.1 % 1 ≤ 65535; omega, by show (pe.2.take 63).length ≤ 63; rw [List.length_take]; omega, fun x hx => h3 x (List.mem_of_mem_take hx)⟩)
  have HR : Hid _ := hrib
  have t6 : (c : Int) ≤ (cap : Int) := by omega
  have t7 : ¬ cap = 0 := by omega
  have t8 : (0 : Int) ≤ (c : Int) := by omega
  clear hrib hRib0 h21 zP zR
  refine wp_region_last (fun w' => w'.cell? ⟨wB.heap.size, 0, none⟩ = some (.string ⟨#[100]⟩) ∧ w'.cell? ⟨wB.heap.size, 1, none⟩ = some (.int .u16 0) ∧ w'.cell? ⟨wB.heap.size, 2, none⟩ = some (.int .u8 0) ∧ w'.cell? ⟨wB.heap.size, 3, none⟩ = some (.bool ap)) 7 (by kernel_rfl) ⟨k0, k1, k2, k3⟩ (fun hH => ?_)
  refine wpAnyL_takeD 0 (v := ?vq0) (by kernel_rfl) rfl (by kernel_rfl) (by kernel_rfl) (by kernel_rfl) (fun _ _ _ h => h) (by rfl) hH ?yq0 ?rq0
  case yq0 => (intro wz hSw; (try dsimp only at hSw); go_simp; try with_reducible rfl)
  try simp only [Act.put, List.setIfInBounds_toArray, List.set_cons_zero, List.set_cons_succ]
  refine wpAnyL_takeD 1 (v := ?vq1) (by kernel_rfl) rfl (by kernel_rfl) (by kernel_rfl) (by kernel_rfl) (fun _ _ _ h => h) (by rfl) hH ?yq1 ?rq1
  case yq1 => (intro wz hSw; (try dsimp only at hSw); go_simp; try with_reducible rfl)
  try simp only [Act.put, List.setIfInBounds_toArray, List.set_cons_zero, List.set_cons_succ]
  refine wpAnyL_takeD 2 (v := ?vq2) (by kernel_rfl) rfl (by kernel_rfl) (by kernel_rfl) (by kernel_rfl) (fun _ _ _ h => h) (by rfl) hH ?yq2 ?rq2
  case yq2 => (intro wz hSw; (try dsimp only at hSw); go_simp; try with_reducible rfl)
  try simp only [Act.put, List.setIfInBounds_toArray, List.set_cons_zero, List.set_cons_succ]
  refine wpAnyL_takeD 3 (v := ?vq3) (by kernel_rfl) rfl (by kernel_rfl) (by kernel_rfl) (by kernel_rfl) (fun _ _ _ h => h) (by rfl) hH ?yq3 ?rq3
  case yq3 => (intro wz hSw; (try dsimp only at hSw); go_simp; try with_reducible rfl)
  try simp only [Act.put, List.setIfInBounds_toArray, List.set_cons_zero, List.set_cons_succ]
  refine wpAnyL_takeD 4 (v := ?vq4) (by kernel_rfl) rfl (by kernel_rfl) (by kernel_rfl) (by kernel_rfl) (fun _ _ _ h => h) (by rfl) hH ?yq4 ?rq4
  case yq4 => (intro wz hSw; (try dsimp only at hSw); go_simp; try with_reducible rfl)
  try simp only [Act.put, List.setIfInBounds_toArray, List.set_cons_zero, List.set_cons_succ]
  refine wpAnyL_oneD 5 (by kernel_rfl) rfl (fun K hK => ?_)
  go_simp
  refine Calls.mono HR.out ?_
  rintro e w3 ⟨s', V', hH3, ⟨hlt, j, rfl⟩ | ⟨hEq, _⟩⟩
  · have hkk := (hH3.out wB.heap.size (by simpa using lK) (out_none (by omega)) (by simp [Value.ownBlock])).1
    have hbl := held_below gAll hH3 (by omega) (by intro k e; cases e)
    have hS : w3.cell? ⟨wB.heap.size, 0, none⟩ = some (.string ⟨#[100]⟩) ∧ w3.cell? ⟨wB.heap.size, 1, none⟩ = some (.int .u16 0) ∧ w3.cell? ⟨wB.heap.size, 2, none⟩ = some (.int .u8 0) ∧ w3.cell? ⟨wB.heap.size, 3, none⟩ = some (.bool ap) := by
      obtain ⟨q0, q1, q2, q3, _⟩ := row4 (hkk.trans zK)
      exact ⟨q0, q1, q2, q3⟩
    refine hK _ _ (fun _ => hS) (fun _ => ?_)
    clear hK K
    try simp only [Act.put, List.setIfInBounds_toArray, List.set_cons_zero, List.set_cons_succ]
    refine wpAnyL_oneD 6 (by kernel_rfl) rfl (fun K hK => ?_)
    go_simp
    refine hK _ _ (fun _ => hS) (fun _ => ?_)
    clear hK K
    try simp only [Act.put, List.setIfInBounds_toArray, List.set_cons_zero, List.set_cons_succ]
    refine wpAnyL_oneD 7 (by kernel_rfl) rfl (fun K hK => ?_)
    go_simp
    refine hK _ _ (fun hno => absurd rfl hno) (fun _ => ?_)
    clear hK K
    try simp only [Act.put, List.setIfInBounds_toArray, List.set_cons_zero, List.set_cons_succ]
    refine wpAnyL_done (by kernel_rfl) ?_ _
    go_wp2_with fail
    go_ret
    exact ⟨rfl, hbl⟩
  · exact absurd hEq (by have := Hlen.out; omega)
end Go.Proofs.YbulkaigaFmt
