import Derived.Test.YbulkaieySourceStep
import Derived.Deep.RegionHeld3
import Derived.Deep.AppendLies
import Derived.Maps.RangeWalk
namespace Go.Proofs.Ybulkaiey
open Go.RowKit

/-- What the walk asks of the slice of bytes. -/
def Vals (p : Option Addr) (n : Nat) (f : Nat → Int) (w : World) : Prop :=
  ∀ k, k < n → ∃ b off, p = some ⟨b, off, none⟩ ∧ b < w.heap.size ∧ 0 ≤ f k ∧ f k ≤ 255 ∧ w.cell? ⟨b, off + k, none⟩ = some (.int .u8 (f k))
/-- The three counts. -/
def cntOf (e0 e1 e2 : Nat) (a : Nat) : Nat := if a = 0 then 1 + e0 % 4 else if a = 1 then 1 + e1 % 4 else 1 + e2 % 4
def TabOk (w : World) (tb : Nat) : Prop := ∀ i, i < 45 → ∃ x : Int, 0 ≤ x ∧ x ≤ 4 ∧ w.cell? ⟨tb, i, none⟩ = some (.int .i64 x)

theorem cell_new (w : World) (cs : Array Value) (t : TypeId) (i : Nat) : (w.alloc (.cells cs t)).cell? ⟨w.heap.size, i, none⟩ = cs[i]? := World.cell?_alloc_new w cs t i
theorem frozen_new (w : World) (cs : Array Value) (t : TypeId) (i : Nat) : (w.alloc (.cells cs t)).frozen? ⟨w.heap.size, i, none⟩ = false := World.frozen?_alloc_new w cs t i
theorem zeros_at (cs : Array Value) (h : cs = Array.replicate 45 (.int .i64 0)) (i : Nat) (hi : i < 45) : cs[i]? = some (.int .i64 0) := by
  subst h; simp [hi]

/-- The tables are filled with numbers from 0 to 4; all else stands. -/
structure Filled (w : World) (c : Nat → Nat) (wr : World) : Prop where
  below : Below w.heap.size w wr
  size : wr.heap.size = w.heap.size + 1 + 1
  cnt : CntMem wr c w.heap.size
  tab : TabOk wr (w.heap.size + 1)
  froz : ∀ i, wr.frozen? ⟨w.heap.size + 1, i, none⟩ = false
theorem TabOk.fn {w : World} {tb : Nat} (h : TabOk w tb) : ∃ T : Nat → Int, (∀ i, 0 ≤ T i ∧ T i ≤ 4) ∧ TabMem w T tb := by
  refine ⟨fun i => if h' : i < 45 then (h i h').choose else 0, fun i => ?_, fun i hi => ?_⟩
  · by_cases hi : i < 45
    · have := (h i hi).choose_spec
      simp only [hi, dif_pos]; exact ⟨this.1, this.2.1⟩
    · simp [hi]
  · have := (h i hi).choose_spec
    simp only [hi, dif_pos]; exact this.2.2
theorem Filled.store {w wr : World} {c : Nat → Nat} (h : Filled w c wr) (i : Nat) (x : Int) (h0 : 0 ≤ x) (h4 : x ≤ 4) : Filled w c (wr.setCell ⟨w.heap.size + 1, i, none⟩ (.int .i64 x)) := by
  refine ⟨h.below.setCell (by simp) _, by simp [h.size], ?_, ?_, ?_⟩
  · intro a ha
    rw [World.cell?_setCell_other _ _ _ _ (by simp)]
    exact h.cnt a ha
  · intro j hj
    by_cases e : j = i
    · subst e
      obtain ⟨y, _, _, hy⟩ := h.tab j hj
      exact ⟨x, h0, h4, World.cell?_setCell_same _ _ _ hy⟩
    · obtain ⟨y, y0, y4, hy⟩ := h.tab j hj
      refine ⟨y, y0, y4, ?_⟩
      rw [World.cell?_setCell_other _ _ _ _ (fun e2 => e (by injection e2 with _ e3; exact e3.symm))]
      exact hy
  · intro j; simp [h.froz]

set_option maxRecDepth 100000 in
set_option maxHeartbeats 2000000 in
theorem law_small (p : Option Addr) (n cap : Nat) (f : Nat → Int) (e0 e1 e2 e3 e4 e5 e6 : Nat) (w : World) (hn : n ≤ 1024) (hp : Vals p n f w)
    (b0 : e0 ≤ 255) (b1 : e1 ≤ 255) (b2 : e2 ≤ 255) (b3 : e3 ≤ 255) (b4 : e4 ≤ 255) (b5 : e5 ≤ 255) (b6 : e6 ≤ 255) :
    Calls Yba.prog 3 #[.slice p n cap, .int .u8 (e0 : Int), .int .u8 (e1 : Int), .int .u8 (e2 : Int), .int .u8 (e3 : Int), .int .u8 (e4 : Int), .int .u8 (e5 : Int), .int .u8 (e6 : Int)] w fun e w' => e = .returned (.bool true) ∧ Below w.heap.size w w' := by
  have Hp : Hid (Vals p n f w) := hp
  clear hp
  go_enter Yba.func3, Yba.ntmps3
  go_wp2_with fail
  have hc4 : ∀ a, cntOf e0 e1 e2 a ≤ 4 := fun a => by unfold cntOf; split <;> (try split) <;> omega
  have hc1 : ∀ a, 1 ≤ cntOf e0 e1 e2 a := fun a => by unfold cntOf; split <;> (try split) <;> omega
  have H4 : Hid (∀ a, cntOf e0 e1 e2 a ≤ 4) := hc4
  have H1 : Hid (∀ a, 1 ≤ cntOf e0 e1 e2 a) := hc1
  clear hc4 hc1
  go_loopw [19, 20] (fun i a wr => ∃ m x : Nat, i = .int .i64 (m : Int) ∧ a = .int .i64 (x : Int) ∧ x ≤ 3 ∧ m ≤ 15 * x ∧ Filled w (cntOf e0 e1 e2) wr) (fun _ a _ => 3 - (intOf a).toNat)
  case atStart =>
    refine ⟨0, 0, rfl, rfl, Nat.zero_le _, Nat.zero_le _, ?_, ?_, ?_, ?_, ?_⟩
    · exact ((Below.refl _ _).alloc (Nat.le_refl _) _).alloc (by simp) _
    · simp
    · intro a ha
      have h3 : a = 0 ∨ a = 1 ∨ a = 2 := by omega
      rcases h3 with rfl | rfl | rfl <;> go_simp <;> simp [cntOf]
    · intro i hi
      refine ⟨0, by omega, by omega, ?_⟩
      have e : w.heap.size + 1 = (w.alloc (.cells #[.int .i64 (1 + (e0 : Int) % 4), .int .i64 (1 + (e1 : Int) % 4), .int .i64 (1 + (e2 : Int) % 4)] 23)).heap.size := by simp
      rw [e, cell_new]
      exact zeros_at _ rfl i hi
    · intro i
      have e : w.heap.size + 1 = (w.alloc (.cells #[.int .i64 (1 + (e0 : Int) % 4), .int .i64 (1 + (e1 : Int) % 4), .int .i64 (1 + (e2 : Int) % 4)] 23)).heap.size := by simp
      rw [e, frozen_new]
  case round =>
    obtain ⟨m, x, rfl, rfl, hx, hm, hF⟩ := hrel
    by_cases hlt : x < 3
    · go_wp2_with fail
      go_loopw [19, 21] (fun i k wr => ∃ m y : Nat, i = .int .i64 (m : Int) ∧ k = .int .i64 ((y : Int) + 1) ∧ y ≤ cntOf e0 e1 e2 x ∧ m ≤ 15 * x + 3 * y ∧ Filled w (cntOf e0 e1 e2) wr) (fun _ k _ => 6 - (intOf k).toNat)
      case atStart => exact ⟨m, 0, rfl, rfl, Nat.zero_le _, by omega, hF⟩
      case round =>
        obtain ⟨m, y, rfl, rfl, hy, hm, hF⟩ := hrel
        have hcx := hF.cnt x hlt
        have h4 := H4.out x
        have h1 := H1.out x
        have HF : Hid (Filled w (cntOf e0 e1 e2) wr) := hF
        generalize cntOf e0 e1 e2 x = cx at hcx hy h4 h1
        clear hF
        by_cases hyc : y < cx
        · go_wp2_with fail
          go_loopw [19, 22] (fun i g wr => ∃ m z : Nat, i = .int .i64 (m : Int) ∧ g = .int .i64 (z : Int) ∧ z ≤ 3 ∧ m ≤ 15 * x + 3 * y + z ∧ Filled w (cntOf e0 e1 e2) wr) (fun _ g _ => 3 - (intOf g).toNat)
          case atStart => exact ⟨m, 0, rfl, rfl, by omega, by omega, HF.out⟩
          case round =>
            obtain ⟨m, z, rfl, rfl, hz, hm, hF⟩ := hrel
            have HF : Hid (Filled w (cntOf e0 e1 e2) wr) := hF
            clear hF
            by_cases hz3 : z < 3
            · by_cases hzx : z = x
              · have hb : ((z : Int) == (x : Int)) = true := beq_iff_eq.2 (by omega)
                clear hzx
                go_wp2_with fail
                go_roundw
                case rel => exact ⟨m, z + 1, rfl, by go_num, by omega, by omega, HF.out⟩
                case measure => simp [intOf]; omega
              · have hb : ((z : Int) == (x : Int)) = false := beq_eq_false_iff_ne.2 (by omega)
                clear hzx
                obtain ⟨v, v0, v4, hv⟩ := HF.out.tab (x * 15 + (y + 1) * 3 + z) (by omega)
                have hfr := HF.out.froz (x * 15 + (y + 1) * 3 + z)
                by_cases hn0 : 0 < n
                · have hi0 : 0 ≤ (m : Int) % (n : Int) := Int.emod_nonneg _ (by omega)
                  have hi1 : (m : Int) % (n : Int) < (n : Int) := Int.emod_lt_of_pos _ (by omega)
                  obtain ⟨b, off, rfl, hbw, f0, f255, hc⟩ := Hp.out (m % n) (Nat.mod_lt _ hn0)
                  have hcr : wr.cell? ⟨b, off + m % n, none⟩ = some (.int .u8 (f (m % n))) := (HF.out.below.cell (p := ⟨b, off + m % n, none⟩) hbw).trans hc
                  clear hc
                  generalize f (m % n) = fv at f0 f255 hcr
                  go_wp2_with fail
                  go_roundw
                  case rel => exact ⟨m + 1, z + 1, by go_num, by go_num, by omega, by omega, HF.out.store _ _ (by omega) (by omega)⟩
                  case measure => simp [intOf]; omega
                · obtain rfl : n = 0 := by omega
                  go_wp2_with fail
                  go_roundw
                  case rel => exact ⟨m + 1, z + 1, by go_num, by go_num, by omega, by omega, HF.out.store _ _ (by omega) (by omega)⟩
                  case measure => simp [intOf]; omega
            · go_wp2_with fail
              go_roundw
              case rel => exact ⟨m, y + 1, rfl, by go_num, by omega, by omega, HF.out⟩
              case measure => simp [intOf]; omega
        · go_wp2_with fail
          go_roundw
          case rel => exact ⟨m, x + 1, rfl, by go_num, by omega, by omega, HF.out⟩
          case measure => simp [intOf]; omega
    · have hxb : decide ((x : Int) < 3) = false := by simp; omega
      obtain ⟨T, hT, hTM⟩ := hF.tab.fn
      have HT : Hid (∀ i, 0 ≤ T i ∧ T i ≤ 4) := hT
      have HTM : Hid (TabMem wr T (w.heap.size + 1)) := hTM
      have HF : Hid (Filled w (cntOf e0 e1 e2) wr) := hF
      have hsz := hF.size
      clear hT hTM hF
      have hmk := make_cl
      go_wp2_with fail
      clear hmk
      go_loopw [25] (fun i wr => ∃ a : Nat, i = .int .i64 (a : Int) ∧ a ≤ 3 ∧ Built w T (cntOf e0 e1 e2) a wr) (fun i _ => 3 - (intOf i).toNat)
      case atStart =>
        have hB1 : Below wr.heap.size wr (wr.alloc (.cells clCells 38)) := (Below.refl _ _).alloc (Nat.le_refl _) _
        refine ⟨0, rfl, Nat.zero_le _, ?_⟩
        refine ⟨HF.out.below.alloc (by omega) _, by simp; omega, HF.out.cnt.below hB1, HTM.out.below hB1, ?_, ?_, fun a' ha' => absurd ha' (Nat.not_lt_zero _)⟩
        · intro j hj
          rw [← hsz, cell_new]
          exact clCells_at j hj
        · intro j
          rw [← hsz, frozen_new]
      case round =>
        obtain ⟨a, rfl, ha, hBt⟩ := hrel
        by_cases ha3 : a < 3
        · have hca := hBt.cnt a ha3
          have h4 := H4.out a
          have h1 := H1.out a
          have HBt : Hid (Built w T (cntOf e0 e1 e2) a wr) := hBt
          have hws := hBt.size
          clear hBt
          generalize hcx : cntOf e0 e1 e2 a = cx at hca h4 h1
          have Hcx : Hid (cntOf e0 e1 e2 a = cx) := hcx
          clear hcx
          have hab : decide ((a : Int) < 3) = true := by simp; omega
          have hmk : ∀ w, (Instr.makeSlice 28 (.int .i64 ((cx : Int) + 1)) (.int .i64 ((cx : Int) + 1))).run Yba.prog w = .ok (.slice (some ⟨w.heap.size, 0, none⟩) (cx + 1) (cx + 1)) (w.alloc (.cells (endCells (cx + 1)) 31)) := fun w => make_ends (cx + 1) (by omega) w
          go_wp2_with fail
          clear hmk
          obtain ⟨ws, rfl⟩ : ∃ ws, ws = wr := ⟨_, rfl⟩
          go_loopw [26, 28] (fun b k wk => ∃ (y cap2 : Nat) (pb : Option Addr), y ≤ cx ∧ k = .int .i64 ((y : Int) + 1) ∧ b = .slice pb (bufL T a y).length cap2 ∧ Rowing ws T (cntOf e0 e1 e2) a y (bufL T a y) b wk) (fun _ k _ => 6 - (intOf k).toNat)
          case atStart =>
            refine ⟨0, 0, none, Nat.zero_le _, rfl, rfl, (Below.refl _ _).alloc (Nat.le_refl _) _, by simp, World.ownsRow_nil _ _ _ _, ?_, fun j => frozen_new _ _ _ _⟩
            intro j hj
            rw [cell_new, endCells_at _ _ (by have := Hcx.out; omega)]
            by_cases hj0 : j = 0
            · subst hj0; rfl
            · rw [if_neg (by omega)]
          case round =>
            obtain ⟨y, cap2, pb, hy, rfl, rfl, hRw⟩ := hrel
            have hcw := (HBt.out.after hRw.below).cnt a ha3
            rw [Hcx.out] at hcw
            have hwz := hRw.size
            have HRw : Hid (Rowing ws T (cntOf e0 e1 e2) a y (bufL T a y) (.slice pb (bufL T a y).length cap2) wr) := hRw
            clear hRw
            by_cases hyc : y < cx
            · have hyb : decide ((y : Int) + 1 ≤ (cx : Int)) = true := by simp; omega
              go_wp2_with fail
              obtain ⟨wy, rfl⟩ : ∃ wy, wy = wr := ⟨_, rfl⟩
              go_loopw [26, 29] (fun b g wk => ∃ (z cap2 : Nat) (pb : Option Addr), z ≤ 3 ∧ g = .int .i64 (z : Int) ∧ b = .slice pb (bufL T a y ++ rowTo T a (y + 1) z).length cap2 ∧ Rowing ws T (cntOf e0 e1 e2) a y (bufL T a y ++ rowTo T a (y + 1) z) b wk) (fun _ g _ => 3 - (intOf g).toNat)
              case atStart => exact ⟨0, cap2, pb, by omega, rfl, by simp [rowTo], by simpa [rowTo] using HRw.out⟩
              case round =>
                obtain ⟨z, cap3, pb3, hz, rfl, rfl, hRg⟩ := hrel
                have hlenb : (bufL T a y).length ≤ 2 * y := bufL_len T a ha3 y
                have hlenr : (rowTo T a (y + 1) z).length ≤ z := rowTo_len T a (y + 1) z
                have hlen : (bufL T a y ++ rowTo T a (y + 1) z).length ≤ 100 := by rw [List.length_append]; omega
                clear hlenb hlenr
                generalize hLL : (bufL T a y ++ rowTo T a (y + 1) z).length = LL at hRg hlen ⊢
                have HLL : Hid ((bufL T a y ++ rowTo T a (y + 1) z).length = LL) := hLL
                have HRg : Hid (Rowing ws T (cntOf e0 e1 e2) a y (bufL T a y ++ rowTo T a (y + 1) z) (.slice pb3 LL cap3) wr) := hRg
                clear hRg hLL
                by_cases hz3 : z < 3
                · have htab := (HBt.out.after HRg.out.below).tab (a * 15 + (y + 1) * 3 + z) (by omega)
                  have hb4 := HT.out (a * 15 + (y + 1) * 3 + z)
                  change wr.cell? _ = some (.int .i64 (t3 T a (y + 1) z)) at htab
                  change 0 ≤ t3 T a (y + 1) z ∧ t3 T a (y + 1) z ≤ 4 at hb4
                  have Hskip : Hid (¬ (z ≠ a ∧ t3 T a (y + 1) z ≠ 0) → rowTo T a (y + 1) (z + 1) = rowTo T a (y + 1) z) := rowTo_skip
                  have Hadd : Hid (z ≠ a → t3 T a (y + 1) z ≠ 0 → rowTo T a (y + 1) (z + 1) = rowTo T a (y + 1) z ++ [(z, t3 T a (y + 1) z)]) := rowTo_add
                  generalize t3 T a (y + 1) z = t at htab hb4 Hskip Hadd
                  obtain ⟨t0, t4⟩ := hb4
                  have hwg := HRg.out.size
                  by_cases hza : z = a
                  · have hb : ((z : Int) != (a : Int)) = false := by simp; omega
                    have Hza : Hid (z = a) := hza
                    clear hza
                    go_wp2_with fail
                    go_roundw
                    case rel => exact ⟨z + 1, cap3, pb3, by omega, by go_num, by rw [Hskip.out (fun h => h.1 Hza.out), HLL.out], by rw [Hskip.out (fun h => h.1 Hza.out)]; exact HRg.out⟩
                    case measure => simp [intOf]; omega
                  · have hb : ((z : Int) != (a : Int)) = true := by simp; omega
                    have Hza : Hid (z ≠ a) := hza
                    clear hza
                    by_cases ht : t = 0
                    · subst ht
                      go_wp2_with fail
                      go_roundw
                      case rel => exact ⟨z + 1, cap3, pb3, by omega, by go_num, by rw [Hskip.out (fun h => h.2 rfl), HLL.out], by rw [Hskip.out (fun h => h.2 rfl)]; exact HRg.out⟩
                      case measure => simp [intOf]; omega
                    · have hbt : (t != 0) = true := by simp; exact ht
                      have Ht : Hid (t ≠ 0) := ht
                      clear ht
                      have hown := HRg.out.own.alloc (.cells #[.int .i32 (z : Int), .int .i32 t] 30)
                      rw [HLL.out] at hown
                      go_wp2_with (first
                        | (at_builtin; go_must (refine wpList_append_lies _ rfl _ _ _ rfl (ws.heap.size + 1) 30 Yba.t30 (.agg #[.int .i32 0, .int .i32 0]) 2 8 Yba.underlying27 Yba.info30 rfl rfl rfl rfl (by omega) (.slice pb3 LL cap3) LL (flat (bufL T a y ++ rowTo T a (y + 1) z)) rfl hown ⟨wr.heap.size, 0, none⟩ 1 1 [.int .i32 (z : Int), .int .i32 t] rfl rfl (World.news_of_block (heap_alloc_new wr _)) (by simp [Value.oneCell']) (by omega) (by unfold maxLen; omega) (by omega) (by simp; omega) (wr.heap.size + 1) (by simp) ?_); intro g' cap4 w1 hown1 hgrow hat1 hlt1))
                      go_roundw
                      case rel =>
                        refine ⟨z + 1, cap4, some ⟨g', 0, none⟩, by omega, by go_num, ?_, ?_⟩
                        · rw [Hadd.out Hza.out Ht.out, ← List.append_assoc, List.length_append, HLL.out]; rfl
                        · rw [Hadd.out Hza.out Ht.out, ← List.append_assoc]
                          exact HRg.out.append (z, t) _ hgrow (by rw [HLL.out]; exact hown1)
                      case measure => simp [intOf]; omega
                · obtain rfl : z = 3 := by omega
                  have hyC : y + 1 ≤ cntOf e0 e1 e2 a := by have := Hcx.out; omega
                  have hend := HRg.out.ends (y + 1) hyC
                  have hfz := HRg.out.froz (y + 1)
                  have Hclose : Hid (Rowing ws T (cntOf e0 e1 e2) a (y + 1) (bufL T a (y + 1)) (.slice pb3 LL cap3) (wr.setCell ⟨ws.heap.size, y + 1, none⟩ (.int .u32 (LL : Int)))) := by
                    have h := HRg.out.close hyC
                    have e : (bufL T a (y + 1)).length = LL := HLL.out
                    rw [e] at h
                    exact h
                  clear hyC
                  go_wp2_with fail
                  go_roundw
                  case rel => exact ⟨y + 1, cap3, pb3, by omega, by go_num, by rw [← HLL.out]; rfl, Hclose.out⟩
                  case measure => simp [intOf]; omega
            · obtain rfl : y = cx := by omega
              have hyb : decide ((y : Int) + 1 ≤ (y : Int)) = false := by simp; omega
              have HBw : Hid (Built w T (cntOf e0 e1 e2) a wr) := HBt.out.after HRw.out.below
              obtain ⟨v0, hv0⟩ := HBw.out.cl (a * 4) (by omega)
              obtain ⟨v1, hv1⟩ := HBw.out.cl (a * 4 + 1) (by omega)
              obtain ⟨v2, hv2⟩ := HBw.out.cl (a * 4 + 2) (by omega)
              obtain ⟨v3, hv3⟩ := HBw.out.cl (a * 4 + 3) (by omega)
              have hf0 := HBw.out.froz (a * 4)
              have hf1 := HBw.out.froz (a * 4 + 1)
              have hf2 := HBw.out.froz (a * 4 + 2)
              have hf3 := HBw.out.froz (a * 4 + 3)
              have hwz2 := HBw.out.size
              have hz1 : w.heap.size < wr.heap.size := by omega
              have hz2 : w.heap.size + 1 + 1 < wr.heap.size := by omega
              have hz3 : w.heap.size + 1 + 1 < wr.heap.size + 1 := by omega
              have hz4 : w.heap.size < wr.heap.size + 1 := by omega
              generalize hLL : (bufL T a y).length = LL at HRw ⊢
              have HLL : Hid ((bufL T a y).length = LL) := hLL
              clear hLL
              go_wp2_with fail
              have := World.new_ne wr ⟨w.heap.size, a, none⟩ hcw
              have hia0 : (0 : Int) ≤ (a : Int) := by omega
              have hia3 : (a : Int) < 3 := by omega
              have hne : w.heap.size ≠ w.heap.size + 1 + 1 := by omega
              go_region_held3 (fun w' => w'.cell? ⟨w.heap.size, a, none⟩ = some (.int .i64 (y : Int))) (first | (go_keep; done) | exact keep6 (p := ⟨w.heap.size, a, none⟩) hz1 hne hcw) (fail)
              go_wp2_with fail
              go_roundw
              case rel => exact ⟨a + 1, by go_num, by omega, HBw.out.step hws HRw.out Hcx.out HLL.out ha3⟩
              case measure => simp [intOf]; omega
        · obtain rfl : a = 3 := by omega
          have hab : decide (((3 : Nat) : Int) < 3) = false := by simp
          have h3 : e3 % 3 < 3 := Nat.mod_lt _ (by omega)
          have hcn := hBt.cnt (e3 % 3) h3
          have HBt : Hid (Built w T (cntOf e0 e1 e2) 3 wr) := hBt
          have hws := hBt.size
          clear hBt
          have h4 := H4.out (e3 % 3)
          have h1 := H1.out (e3 % 3)
          have hz1 : w.heap.size < wr.heap.size := by omega
          have hz4 : w.heap.size < wr.heap.size + 1 := by omega
          have hz5 : w.heap.size < wr.heap.size + 1 + 1 := by omega
          have hi0 : (0 : Int) ≤ (e3 : Int) % 3 := by omega
          have hi3 : (e3 : Int) % 3 < 3 := by omega
          generalize hcx : cntOf e0 e1 e2 (e3 % 3) = cx at hcn h4 h1
          have Hcx : Hid (cntOf e0 e1 e2 (e3 % 3) = cx) := hcx
          clear hcx
          have hm0 : (0 : Int) ≤ (e4 : Int) % (cx : Int) := Int.emod_nonneg _ (by omega)
          have hm1 : (e4 : Int) % (cx : Int) < (cx : Int) := Int.emod_lt_of_pos _ (by omega)
          go_wp2_with fail
          have q1 : (e3 : Int) % 3 = ((e3 % 3 : Nat) : Int) := by omega
          have q2 : 1 + (e4 : Int) % (cx : Int) = ((e4 % cx + 1 : Nat) : Int) := by omega
          have q3 : (e5 : Int) % 3 = ((e5 % 3 : Nat) : Int) := by omega
          have Q1 : Hid ((e3 : Int) % 3 = ((e3 % 3 : Nat) : Int)) := q1
          have Q2 : Hid (1 + (e4 : Int) % (cx : Int) = ((e4 % cx + 1 : Nat) : Int)) := q2
          have Q3 : Hid ((e5 : Int) % 3 = ((e5 % 3 : Nat) : Int)) := q3
          clear q1 q2 q3
          have hB2 : ∀ o1 o2, Below wr.heap.size wr ((wr.alloc o1).alloc o2) := fun o1 o2 => ((Below.refl _ _).alloc (Nat.le_refl _) _).alloc (by simp) _
          have HB2 : Hid (∀ o1 o2, Below wr.heap.size wr ((wr.alloc o1).alloc o2)) := hB2
          clear hB2
          rw [Q1.out, Q2.out, Q3.out]
          refine (source_any _ T (cntOf e0 e1 e2) (wr.heap.size + 1) wr.heap.size (w.heap.size + 1 + 1) (e3 % 3) (e4 % cx) (e5 % 3) _ ⟨?_, ?_, ?_⟩ HT.out h3 (Nat.mod_lt _ (by omega)) (fun a _ => H4.out a) ?_).mono ?_
          · exact World.cell?_alloc_at _ _ _ _ (by simp)
          · exact World.cell?_alloc_at _ _ _ _ (by simp)
          · intro a ha
            obtain ⟨rb, cb, eb, pb, cap, hm, _⟩ := HBt.out.host a ha
            exact ⟨rb, cb, eb, pb, cap, hm.below (HB2.out _ _)⟩
          · rw [Hcx.out]; have := Nat.mod_lt e4 (show 0 < cx by omega); omega
          rintro e w1 ⟨A, B, rfl, hR1, hBw1⟩
          have HR1 : Hid (Res T (cntOf e0 e1 e2) (e3 % 3) (e4 % cx + 1) (e5 % 3) ((e6 : Int) % 6) A B) := hR1
          clear hR1
          go_wp2_with fail
          have q4 : (e4 : Int) % (cx : Int) + 1 = ((e4 % cx + 1 : Nat) : Int) := by omega
          have Q4 : Hid ((e4 : Int) % (cx : Int) + 1 = ((e4 % cx + 1 : Nat) : Int)) := q4
          clear q4
          rw [Q1.out, Q4.out, Q3.out]
          have hB3 : Below w1.heap.size w1 (w1.alloc (.cells #[.int .i64 A, .int .i64 B] 74)) := (Below.refl _ _).alloc (Nat.le_refl _) _
          have hTM := ((HBt.out.tab.below (HB2.out _ _)).below hBw1).below hB3
          have hCM := ((HBt.out.cnt.below (HB2.out _ _)).below hBw1).below hB3
          have hsz1 := hBw1.size
          simp only [World.size_alloc] at hsz1
          refine (model_any _ T (cntOf e0 e1 e2) (w.heap.size + 1) w.heap.size (e3 % 3) (e4 % cx) (e5 % 3) _ hTM hCM HT.out ?_ ?_ h3 (Nat.mod_lt _ (by omega)) (fun a _ => H4.out a) ?_).mono ?_
          · simp; omega
          · simp; omega
          · rw [Hcx.out]; have := Nat.mod_lt e4 (show 0 < cx by omega); omega
          rintro e w2 ⟨A', B', rfl, hR2, hBw2⟩
          obtain ⟨rfl, rfl⟩ := HR1.out.unique hR2
          clear hTM hCM hR2
          have hg0 : w2.cell? ⟨w1.heap.size, 0, none⟩ = some (.int .i64 A) := cell_keep hBw2 (World.cell?_alloc_at _ _ _ _ rfl)
          have hg1 : w2.cell? ⟨w1.heap.size, 1, none⟩ = some (.int .i64 B) := cell_keep hBw2 (World.cell?_alloc_at _ _ _ _ rfl)
          have hsz2 := hBw2.size
          simp only [World.size_alloc] at hsz2
          have hz6 : w1.heap.size < w2.heap.size := by omega
          have HBf : Hid (Below w.heap.size w w2) := ((HBt.out.below.trans ((HB2.out _ _).mono (by omega))).trans (hBw1.mono (by simp; omega))).trans ((hB3.mono (by omega)).trans (hBw2.mono (by simp; omega)))
          clear hB3 hBw1 hBw2
          go_wp2_with fail
          go_ret
          exact ⟨by simp, HBf.out.alloc (by omega) _⟩
end Go.Proofs.Ybulkaiey
