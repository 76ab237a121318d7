import Derived.Test.YbulkaieyFmtIndexHost
import Derived.Test.YbulkaieyFmtIndexWant
import Derived.Deep.RegionHeld3
import Derived.Deep.AppendLies
namespace Go.Proofs.YbulkaieyFmt
open Go.RowKit Go.Maps Go.WideMaps Go.WideElems

theorem Ybaf.info9 : Ybaf.prog.info? 9 = some Ybaf.t9 := by kernel_rfl
abbrev keyS (s : ByteArray) : Lit := .string s.data.toList
/-- What the map holds after the first k names. -/
def MapInv (f : Nat → ByteArray) (k : Nat) (D : DataW Unit) : Prop :=
  ∀ s : ByteArray, (∃ j, j < k ∧ f j = s ∧ (∀ i, i < j → f i ≠ s) ∧ Maps.has D (keyS s) = true ∧ D.atKey (keyS s) (.lit (.int .i64 0)) = .lit (.int .i64 (dist f j : Int))) ∨
    ((∀ i, i < k → f i ≠ s) ∧ Maps.has D (keyS s) = false)

theorem mapInv_zero (f : Nat → ByteArray) : MapInv f 0 (.map []) := fun _ => Or.inr ⟨fun _ hi => absurd hi (Nat.not_lt_zero _), rfl⟩
theorem mapInv_seen {f : Nat → ByteArray} {k : Nat} {D : DataW Unit} (h : MapInv f k D) (hh : Maps.has D (keyS (f k)) = true) : MapInv f (k + 1) D ∧ dist f (k + 1) = dist f k := by
  rcases h (f k) with ⟨j, hj, hfj, _, _, _⟩ | ⟨_, hno⟩
  · refine ⟨fun s => ?_, dist_seen (seenB_true hj hfj)⟩
    rcases h s with ⟨i, hi, r⟩ | ⟨hne, hf⟩
    · exact Or.inl ⟨i, by omega, r⟩
    · refine Or.inr ⟨fun i hi => ?_, hf⟩
      by_cases e : i = k
      · subst e
        intro e2
        exact hne j hj (hfj.trans e2)
      · exact hne i (by omega)
  · rw [hno] at hh; cases hh
theorem keyS_inj {a b : ByteArray} (h : keyS a = keyS b) : a = b := by
  cases a; cases b
  injection h with e
  exact congrArg _ (Array.ext' e)
theorem mapInv_new {f : Nat → ByteArray} {k : Nat} {D : DataW Unit} (hm : Maps.IsMap D) (h : MapInv f k D) (hh : Maps.has D (keyS (f k)) = false) :
    MapInv f (k + 1) (D.put (keyS (f k)) (.lit (.int .i64 (dist f k : Int)))) ∧ dist f (k + 1) = dist f k + 1 := by
  rcases h (f k) with ⟨j, hj, hfj, _, hyes, _⟩ | ⟨hne0, _⟩
  · rw [hyes] at hh; cases hh
  · refine ⟨fun s => ?_, dist_new (seenB_false hne0)⟩
    by_cases e : s = f k
    · subst e
      exact Or.inl ⟨k, by omega, rfl, hne0, Maps.has_put_same hm (show WideAt.IsKeyLit (keyS (f k)) from trivial) _, Maps.atKey_put_same hm (show WideAt.IsKeyLit (keyS (f k)) from trivial) _ _⟩
    · have hk : keyS s ≠ keyS (f k) := fun h' => e (keyS_inj h')
      rw [Maps.has_put_other hk, Maps.atKey_put_other hk]
      rcases h s with ⟨i, hi, r⟩ | ⟨hne, hf⟩
      · exact Or.inl ⟨i, by omega, r⟩
      · refine Or.inr ⟨fun i hi => ?_, hf⟩
        by_cases e2 : i = k
        · subst e2; exact fun e3 => e e3.symm
        · exact hne i (by omega)

set_option maxRecDepth 100000 in
set_option maxHeartbeats 1000000 in
theorem build_any (p : Option Addr) (n cap : Nat) (f : Nat → ByteArray) (w : World) (hn : n ≤ 1024) (hp : ∀ k, k < n → ∃ b off, p = some ⟨b, off, none⟩ ∧ b < w.heap.size ∧ (f k).size ≤ maxLen ∧ w.cell? ⟨b, off + k, none⟩ = some (.string (f k))) :
    Calls Ybaf.prog 11 #[.slice p n cap] w fun e w' => e = .returned (.pointer (some ⟨w.heap.size + 1, 0, none⟩)) ∧ Below w.heap.size w w' ∧ w'.cell? ⟨w.heap.size + 1, 1, none⟩ = some (.map (some w.heap.size)) ∧ ∃ D, MapInv f n D ∧ w'.ownsMap Ybaf.prog 9 (plainElem Ybaf.prog 3) w.heap.size n D := by
  have Hp : Hid (∀ k, k < n → ∃ b off, p = some ⟨b, off, none⟩ ∧ b < w.heap.size ∧ (f k).size ≤ maxLen ∧ w.cell? ⟨b, off + k, none⟩ = some (.string (f k))) := hp
  clear hp
  have hmm := @run_makeMap Ybaf.prog
  go_enter Ybaf.func11, Ybaf.ntmps11
  go_wp2_with fail
  clear hmm
  go_loopw [13] (fun i wr => ∃ (k ch : Nat) (ph : Option Addr) (D : DataW Unit) (xs : List Value), k ≤ n ∧ i = .int .i64 k ∧ Below w.heap.size w wr ∧ wr.ownsMap Ybaf.prog 9 (plainElem Ybaf.prog 3) w.heap.size k D ∧ Hid (MapInv f k D) ∧
      w.heap.size + 1 + 1 ≤ wr.heap.size ∧ wr.cell? ⟨w.heap.size + 1, 0, none⟩ = some (.slice ph (dist f k) ch) ∧ wr.cell? ⟨w.heap.size + 1, 1, none⟩ = some (.map (some w.heap.size)) ∧ wr.frozen? ⟨w.heap.size + 1, 0, none⟩ = false ∧
      wr.ownsRow (w.heap.size + 1 + 1) 9 1 (.slice ph (dist f k) ch) (dist f k) xs) (fun i _ => n - (intOf i).toNat)
  case atStart =>
    refine ⟨0, 0, none, .map [], [], Nat.zero_le _, rfl, ?_, ?_, mapInv_zero f, ?_, ?_, ?_, ?_, ?_⟩
    · exact ((Below.refl _ _).alloc (Nat.le_refl _) _).alloc (by simp) _
    · exact (World.ownsMap_made _ _ _ _).alloc _
    · simp
    · go_simp; rfl
    · go_simp
    · go_simp
    · exact World.ownsRow_nil _ _ _ _
  case round =>
    obtain ⟨k, ch, ph, D, xs, hk, rfl, hB, hown, Hinv, hz, hc0, hc1, hf0, hrow⟩ := hrel
    by_cases hlt : k < n
    · obtain ⟨b, off, rfl, hbw, hsz, hc⟩ := Hp.out k hlt
      have hcr : wr.cell? ⟨b, off + k, none⟩ = some (.string (f k)) := (hB.cell (p := ⟨b, off + k, none⟩) hbw).trans hc
      clear hc
      have hkey := keyOf_string_mk Ybaf.underlying9 hsz
      by_cases hh : Maps.has D (keyS (f k)) = true
      · have Hi : Hid (MapInv f (k + 1) D ∧ dist f (k + 1) = dist f k) := mapInv_seen Hinv.out hh
        have Hrow : Hid (wr.ownsRow (w.heap.size + 1 + 1) 9 1 (.slice ph (dist f k) ch) (dist f k) xs) := hrow
        clear hrow
        go_wp2_with (first
          | (at_lookup; refine wpList_lookup_own_ok_int _ rfl _ _ 49 rfl 9 3 .i64 law Ybaf.underlying49 Ybaf.underlying3 (zeroE _) w.heap.size k D rfl hown _ _ rfl hkey ?_; intro c hat hwc))
        go_roundw
        case rel =>
          refine ⟨k + 1, ch, ph, D, xs, by omega, by go_num, hB, hown.mono (by omega), Hi.out.1, hz, ?_, hc1, hf0, ?_⟩
          · rw [Hi.out.2]; exact hc0
          · rw [Hi.out.2]; exact Hrow.out
        case measure => simp [intOf]; omega
      · have hh' : Maps.has D (keyS (f k)) = false := by simpa using hh
        clear hh
        have Hi : Hid (MapInv f (k + 1) (D.put (keyS (f k)) (.lit (.int .i64 (dist f k : Int)))) ∧ dist f (k + 1) = dist f k + 1) := mapInv_new hown.isMap Hinv.out hh'
        have hdl := dist_le f k
        have Hrow : Hid (wr.ownsRow (w.heap.size + 1 + 1) 9 1 (.slice ph (dist f k) ch) (dist f k) xs) := hrow
        clear hrow
        obtain ⟨wb, hrb, hob, hgb⟩ := hown.drew.update law Ybaf.underlying49 (by unfold maxLen; omega) hkey (plainElem_int Ybaf.underlying3 (show (Lit.int .i64 (dist f k : Int)).wf = true from by simp [Lit.wf, IntKind.min, IntKind.max, IntKind.signed, IntKind.bits]; omega))
        have hb0 : wb.cell? ⟨w.heap.size + 1, 0, none⟩ = some (.slice ph (dist f k) ch) := (hgb.cell_far ⟨w.heap.size + 1, 0, none⟩ (by simp; omega) (by simp)).trans hc0
        have hb1 : wb.cell? ⟨w.heap.size + 1, 1, none⟩ = some (.map (some w.heap.size)) := (hgb.cell_far ⟨w.heap.size + 1, 1, none⟩ (by simp; omega) (by simp)).trans hc1
        have hbf : wb.frozen? ⟨w.heap.size + 1, 0, none⟩ = false := (hgb.frozen_far ⟨w.heap.size + 1, 0, none⟩ (by simp; omega) (by simp)).trans hf0
        go_wp2_with (first
          | (at_lookup; refine wpList_lookup_own_ok_int _ rfl _ _ 49 rfl 9 3 .i64 law Ybaf.underlying49 Ybaf.underlying3 (zeroE _) w.heap.size k D rfl hown _ _ rfl hkey ?_; intro c hat hwc))
        go_region_held3 (fun w' => w'.cell? ⟨w.heap.size + 1, 0, none⟩ = some (.slice ph (dist f k) ch) ∧ w'.cell? ⟨w.heap.size + 1, 1, none⟩ = some (.map (some w.heap.size))) (go_keep) (fail)
        clear hrb hown hc0 hc1 hf0 hcr
        have hrowb : wb.ownsRow (w.heap.size + 1 + 1) 9 1 (.slice ph (dist f k) ch) (dist f k) xs := Hrow.out.drew.kept hgb (Or.inr fun e => by have := (Hrow.out.lt _ e).1; omega)
        have hzb : w.heap.size + 1 + 1 ≤ wb.heap.size := Nat.le_trans hz hgb.size
        have hob' := hrowb.alloc (.cells #[.string (f k)] 9)
        have hv1 : ∀ m, m < w.heap.size + 1 + 1 → some m ≠ (Value.slice ph (dist f k) ch).ownBlock := fun m hm e => by have := (hrowb.lt _ e.symm).1; omega
        have Hrb : Hid (wb.ownsRow (w.heap.size + 1 + 1) 9 1 (.slice ph (dist f k) ch) (dist f k) xs) := hrowb
        clear hrowb
        have hcell0 : ∀ o w1, (wb.alloc o).grownBy w1 (Value.slice ph (dist f k) ch).ownBlock → w1.cell? ⟨w.heap.size + 1, 0, none⟩ = some (.slice ph (dist f k) ch) := fun o w1 hgrow =>
          (hgrow.cell_far ⟨w.heap.size + 1, 0, none⟩ (by simp; omega) (hv1 _ (by simp))).trans ((((Below.refl _ wb).alloc (Nat.le_refl _) o).cell (p := ⟨w.heap.size + 1, 0, none⟩) (by simp; omega)).trans hb0)
        have hcell1 : ∀ o w1, (wb.alloc o).grownBy w1 (Value.slice ph (dist f k) ch).ownBlock → w1.cell? ⟨w.heap.size + 1, 1, none⟩ = some (.map (some w.heap.size)) := fun o w1 hgrow =>
          (hgrow.cell_far ⟨w.heap.size + 1, 1, none⟩ (by simp; omega) (hv1 _ (by simp))).trans ((((Below.refl _ wb).alloc (Nat.le_refl _) o).cell (p := ⟨w.heap.size + 1, 1, none⟩) (by simp; omega)).trans hb1)
        have hcellf : ∀ o w1, (wb.alloc o).grownBy w1 (Value.slice ph (dist f k) ch).ownBlock → w1.frozen? ⟨w.heap.size + 1, 0, none⟩ = false := fun o w1 hgrow =>
          (hgrow.frozen_far ⟨w.heap.size + 1, 0, none⟩ (by simp; omega) (hv1 _ (by simp))).trans ((((Below.refl _ wb).alloc (Nat.le_refl _) o).frozen (p := ⟨w.heap.size + 1, 0, none⟩) (by simp; omega)).trans hbf)
        go_wp2_with (first
          | (at_builtin; go_must (refine wpList_append_lies _ rfl _ _ _ rfl (w.heap.size + 1 + 1) 9 Ybaf.t9 (.string ByteArray.empty) 1 16 Ybaf.underlying34 Ybaf.info9 rfl rfl rfl rfl (by omega) (.slice ph (dist f k) ch) (dist f k) xs rfl hob' ⟨wb.heap.size, 0, none⟩ 1 1 [.string (f k)] rfl rfl (World.news_of_block (heap_alloc_new wb _)) (by simp [Value.oneCell']) (by omega) (by unfold maxLen; omega) (by omega) (by simp; omega) (wb.heap.size + 1) (by simp) ?_); intro g cap2 w1 hown1 hgrow hat1 hlt1; go_must (have hx0 := hcell0 _ _ hgrow); go_must (have hxf := hcellf _ _ hgrow)))
        go_roundw
        case rel =>
          have hB1 : Below w.heap.size w wb := hB.drew.grown hgb (by show _ ≤ wr.heap.size; omega) (fun j hj => by cases hj; exact Nat.le_refl _)
          have hB2 : Below w.heap.size w w1 := (hB1.alloc (by omega) _).grown hgrow (by simp; omega) (fun j hj => by have := (hob'.lt _ hj).1; omega)
          have hm1 : w1.ownsMap Ybaf.prog 9 (plainElem Ybaf.prog 3) w.heap.size (k + 1) (D.put (keyS (f k)) (.lit (.int .i64 (dist f k : Int)))) := (hob.alloc _).kept hgrow (hv1 _ (by omega))
          have hz1 := hgrow.size
          refine ⟨k + 1, cap2, some ⟨g, 0, none⟩, D.put (keyS (f k)) (.lit (.int .i64 (dist f k : Int))), xs ++ [.string (f k)], by omega, by go_num, hB2.setCell (by simp) _, hm1.setCell (by simp) _, Hi.out.1, ?_, ?_, ?_, ?_, ?_⟩
          · simp at hz1 ⊢; omega
          · rw [Hi.out.2]; exact World.cell?_setCell_same _ _ _ (hcell0 _ _ hgrow)
          · rw [World.cell?_setCell_other _ _ _ _ (by simp)]; exact hcell1 _ _ hgrow
          · simp; exact hcellf _ _ hgrow
          · rw [Hi.out.2]; exact ownsRow_setCell_below hown1 (by simp) _
        case measure => simp [intOf]; omega
    · obtain rfl : k = n := by omega
      go_wp2_with fail
      go_ret
      exact ⟨rfl, hB, hc1, D, Hinv.out, hown⟩
end Go.Proofs.YbulkaieyFmt
