import Derived.Test.YbulkaigaFmtAs16
namespace Go.Proofs.YbulkaigaFmt
open Go.RowKit

set_option maxRecDepth 100000 in
set_option maxHeartbeats 4000000 in
theorem bits13_any (hi lo : Int) (pp : Option Go.Addr) (m : Nat) (w : World) (hm : m ≤ 128) :
    Calls Ybaf.prog 13 #[.agg #[.int .u64 hi, .int .u64 lo, .pointer pp, .int .u8 ((m : Int) + 1)]] w fun e w' => e = .returned (.int .i64 m) ∧ w' = w.alloc (.cells #[.int .u64 hi, .int .u64 lo, .pointer pp, .int .u8 ((m : Int) + 1)] 47) := by
  have h1 : (m : Int) + 1 - 1 = m := by omega
  go_enter Ybaf.func13, Ybaf.ntmps13
  go_wp2_with fail
  go_ret
  exact ⟨rfl, rfl⟩

set_option maxRecDepth 100000 in
set_option maxHeartbeats 4000000 in
theorem addr14_any (hi lo b : Int) (pp : Option Go.Addr) (w : World) :
    Calls Ybaf.prog 14 #[.agg #[.int .u64 hi, .int .u64 lo, .pointer pp, .int .u8 b]] w fun e w' => e = .returned (.agg #[.int .u64 hi, .int .u64 lo, .pointer pp]) ∧ w.grownBy w' none := by
  go_enter Ybaf.func14, Ybaf.ntmps14
  go_wp2_with fail
  refine bodyPost_ret (v := .agg #[.int .u64 hi, .int .u64 lo, .pointer pp]) (by simp [results, Ybaf.f14, go_sem]) rfl ⟨rfl, ?_⟩
  exact grown2 _ _

/-- The mask's byte, as the law reckons it. -/
def goMask (i m : Nat) : Int := if m - i * 8 < 8 then 255 * 2 ^ (8 - (m - i * 8)) % 256 else 255
/-- The array while byte i is about to be written. -/
def maskAt (f : Nat → Int) (off m i j : Nat) : Int := if off ≤ j ∧ j - off < i then bits .and .u8 (f (j - off)) (goMask (j - off) m) else if off = 12 ∧ (j = 10 ∨ j = 11) then 255 else 0
def maskRow (f : Nat → Int) (off m i : Nat) : List Value := (List.range 16).map fun j => Value.int .u8 (maskAt f off m i j)

theorem set16v {w : World} {b : Nat} {c0 c1 c2 c3 c4 c5 c6 c7 c8 c9 c10 c11 c12 c13 c14 c15 v0 v1 v2 v3 v4 v5 v6 v7 v8 v9 v10 v11 v12 v13 v14 v15 : Value} {ty : TypeId} (h : w.heap[b]? = some (.cells #[c0, c1, c2, c3, c4, c5, c6, c7, c8, c9, c10, c11, c12, c13, c14, c15] ty (0, 0))) :
    ((((((((((((((((w.setCell ⟨b, 0, none⟩ v0).setCell ⟨b, 1, none⟩ v1).setCell ⟨b, 2, none⟩ v2).setCell ⟨b, 3, none⟩ v3).setCell ⟨b, 4, none⟩ v4).setCell ⟨b, 5, none⟩ v5).setCell ⟨b, 6, none⟩ v6).setCell ⟨b, 7, none⟩ v7).setCell ⟨b, 8, none⟩ v8).setCell ⟨b, 9, none⟩ v9).setCell ⟨b, 10, none⟩ v10).setCell ⟨b, 11, none⟩ v11).setCell ⟨b, 12, none⟩ v12).setCell ⟨b, 13, none⟩ v13).setCell ⟨b, 14, none⟩ v14).setCell ⟨b, 15, none⟩ v15).heap[b]? = some (.cells #[v0, v1, v2, v3, v4, v5, v6, v7, v8, v9, v10, v11, v12, v13, v14, v15] ty (0, 0)) := by
  have h0 : (w.setCell ⟨b, 0, none⟩ v0).heap[b]? = some (.cells #[v0, c1, c2, c3, c4, c5, c6, c7, c8, c9, c10, c11, c12, c13, c14, c15] ty (0, 0)) := (heap_setCell_same _ b 0 _ ty v0 h).trans rfl
  have h1 : ((w.setCell ⟨b, 0, none⟩ v0).setCell ⟨b, 1, none⟩ v1).heap[b]? = some (.cells #[v0, v1, c2, c3, c4, c5, c6, c7, c8, c9, c10, c11, c12, c13, c14, c15] ty (0, 0)) := (heap_setCell_same _ b 1 _ ty v1 h0).trans rfl
  have h2 : (((w.setCell ⟨b, 0, none⟩ v0).setCell ⟨b, 1, none⟩ v1).setCell ⟨b, 2, none⟩ v2).heap[b]? = some (.cells #[v0, v1, v2, c3, c4, c5, c6, c7, c8, c9, c10, c11, c12, c13, c14, c15] ty (0, 0)) := (heap_setCell_same _ b 2 _ ty v2 h1).trans rfl
  have h3 : ((((w.setCell ⟨b, 0, none⟩ v0).setCell ⟨b, 1, none⟩ v1).setCell ⟨b, 2, none⟩ v2).setCell ⟨b, 3, none⟩ v3).heap[b]? = some (.cells #[v0, v1, v2, v3, c4, c5, c6, c7, c8, c9, c10, c11, c12, c13, c14, c15] ty (0, 0)) := (heap_setCell_same _ b 3 _ ty v3 h2).trans rfl
  have h4 : (((((w.setCell ⟨b, 0, none⟩ v0).setCell ⟨b, 1, none⟩ v1).setCell ⟨b, 2, none⟩ v2).setCell ⟨b, 3, none⟩ v3).setCell ⟨b, 4, none⟩ v4).heap[b]? = some (.cells #[v0, v1, v2, v3, v4, c5, c6, c7, c8, c9, c10, c11, c12, c13, c14, c15] ty (0, 0)) := (heap_setCell_same _ b 4 _ ty v4 h3).trans rfl
  have h5 : ((((((w.setCell ⟨b, 0, none⟩ v0).setCell ⟨b, 1, none⟩ v1).setCell ⟨b, 2, none⟩ v2).setCell ⟨b, 3, none⟩ v3).setCell ⟨b, 4, none⟩ v4).setCell ⟨b, 5, none⟩ v5).heap[b]? = some (.cells #[v0, v1, v2, v3, v4, v5, c6, c7, c8, c9, c10, c11, c12, c13, c14, c15] ty (0, 0)) := (heap_setCell_same _ b 5 _ ty v5 h4).trans rfl
  have h6 : (((((((w.setCell ⟨b, 0, none⟩ v0).setCell ⟨b, 1, none⟩ v1).setCell ⟨b, 2, none⟩ v2).setCell ⟨b, 3, none⟩ v3).setCell ⟨b, 4, none⟩ v4).setCell ⟨b, 5, none⟩ v5).setCell ⟨b, 6, none⟩ v6).heap[b]? = some (.cells #[v0, v1, v2, v3, v4, v5, v6, c7, c8, c9, c10, c11, c12, c13, c14, c15] ty (0, 0)) := (heap_setCell_same _ b 6 _ ty v6 h5).trans rfl
  have h7 : ((((((((w.setCell ⟨b, 0, none⟩ v0).setCell ⟨b, 1, none⟩ v1).setCell ⟨b, 2, none⟩ v2).setCell ⟨b, 3, none⟩ v3).setCell ⟨b, 4, none⟩ v4).setCell ⟨b, 5, none⟩ v5).setCell ⟨b, 6, none⟩ v6).setCell ⟨b, 7, none⟩ v7).heap[b]? = some (.cells #[v0, v1, v2, v3, v4, v5, v6, v7, c8, c9, c10, c11, c12, c13, c14, c15] ty (0, 0)) := (heap_setCell_same _ b 7 _ ty v7 h6).trans rfl
  have h8 : (((((((((w.setCell ⟨b, 0, none⟩ v0).setCell ⟨b, 1, none⟩ v1).setCell ⟨b, 2, none⟩ v2).setCell ⟨b, 3, none⟩ v3).setCell ⟨b, 4, none⟩ v4).setCell ⟨b, 5, none⟩ v5).setCell ⟨b, 6, none⟩ v6).setCell ⟨b, 7, none⟩ v7).setCell ⟨b, 8, none⟩ v8).heap[b]? = some (.cells #[v0, v1, v2, v3, v4, v5, v6, v7, v8, c9, c10, c11, c12, c13, c14, c15] ty (0, 0)) := (heap_setCell_same _ b 8 _ ty v8 h7).trans rfl
  have h9 : ((((((((((w.setCell ⟨b, 0, none⟩ v0).setCell ⟨b, 1, none⟩ v1).setCell ⟨b, 2, none⟩ v2).setCell ⟨b, 3, none⟩ v3).setCell ⟨b, 4, none⟩ v4).setCell ⟨b, 5, none⟩ v5).setCell ⟨b, 6, none⟩ v6).setCell ⟨b, 7, none⟩ v7).setCell ⟨b, 8, none⟩ v8).setCell ⟨b, 9, none⟩ v9).heap[b]? = some (.cells #[v0, v1, v2, v3, v4, v5, v6, v7, v8, v9, c10, c11, c12, c13, c14, c15] ty (0, 0)) := (heap_setCell_same _ b 9 _ ty v9 h8).trans rfl
  have h10 : (((((((((((w.setCell ⟨b, 0, none⟩ v0).setCell ⟨b, 1, none⟩ v1).setCell ⟨b, 2, none⟩ v2).setCell ⟨b, 3, none⟩ v3).setCell ⟨b, 4, none⟩ v4).setCell ⟨b, 5, none⟩ v5).setCell ⟨b, 6, none⟩ v6).setCell ⟨b, 7, none⟩ v7).setCell ⟨b, 8, none⟩ v8).setCell ⟨b, 9, none⟩ v9).setCell ⟨b, 10, none⟩ v10).heap[b]? = some (.cells #[v0, v1, v2, v3, v4, v5, v6, v7, v8, v9, v10, c11, c12, c13, c14, c15] ty (0, 0)) := (heap_setCell_same _ b 10 _ ty v10 h9).trans rfl
  have h11 : ((((((((((((w.setCell ⟨b, 0, none⟩ v0).setCell ⟨b, 1, none⟩ v1).setCell ⟨b, 2, none⟩ v2).setCell ⟨b, 3, none⟩ v3).setCell ⟨b, 4, none⟩ v4).setCell ⟨b, 5, none⟩ v5).setCell ⟨b, 6, none⟩ v6).setCell ⟨b, 7, none⟩ v7).setCell ⟨b, 8, none⟩ v8).setCell ⟨b, 9, none⟩ v9).setCell ⟨b, 10, none⟩ v10).setCell ⟨b, 11, none⟩ v11).heap[b]? = some (.cells #[v0, v1, v2, v3, v4, v5, v6, v7, v8, v9, v10, v11, c12, c13, c14, c15] ty (0, 0)) := (heap_setCell_same _ b 11 _ ty v11 h10).trans rfl
  have h12 : (((((((((((((w.setCell ⟨b, 0, none⟩ v0).setCell ⟨b, 1, none⟩ v1).setCell ⟨b, 2, none⟩ v2).setCell ⟨b, 3, none⟩ v3).setCell ⟨b, 4, none⟩ v4).setCell ⟨b, 5, none⟩ v5).setCell ⟨b, 6, none⟩ v6).setCell ⟨b, 7, none⟩ v7).setCell ⟨b, 8, none⟩ v8).setCell ⟨b, 9, none⟩ v9).setCell ⟨b, 10, none⟩ v10).setCell ⟨b, 11, none⟩ v11).setCell ⟨b, 12, none⟩ v12).heap[b]? = some (.cells #[v0, v1, v2, v3, v4, v5, v6, v7, v8, v9, v10, v11, v12, c13, c14, c15] ty (0, 0)) := (heap_setCell_same _ b 12 _ ty v12 h11).trans rfl
  have h13 : ((((((((((((((w.setCell ⟨b, 0, none⟩ v0).setCell ⟨b, 1, none⟩ v1).setCell ⟨b, 2, none⟩ v2).setCell ⟨b, 3, none⟩ v3).setCell ⟨b, 4, none⟩ v4).setCell ⟨b, 5, none⟩ v5).setCell ⟨b, 6, none⟩ v6).setCell ⟨b, 7, none⟩ v7).setCell ⟨b, 8, none⟩ v8).setCell ⟨b, 9, none⟩ v9).setCell ⟨b, 10, none⟩ v10).setCell ⟨b, 11, none⟩ v11).setCell ⟨b, 12, none⟩ v12).setCell ⟨b, 13, none⟩ v13).heap[b]? = some (.cells #[v0, v1, v2, v3, v4, v5, v6, v7, v8, v9, v10, v11, v12, v13, c14, c15] ty (0, 0)) := (heap_setCell_same _ b 13 _ ty v13 h12).trans rfl
  have h14 : (((((((((((((((w.setCell ⟨b, 0, none⟩ v0).setCell ⟨b, 1, none⟩ v1).setCell ⟨b, 2, none⟩ v2).setCell ⟨b, 3, none⟩ v3).setCell ⟨b, 4, none⟩ v4).setCell ⟨b, 5, none⟩ v5).setCell ⟨b, 6, none⟩ v6).setCell ⟨b, 7, none⟩ v7).setCell ⟨b, 8, none⟩ v8).setCell ⟨b, 9, none⟩ v9).setCell ⟨b, 10, none⟩ v10).setCell ⟨b, 11, none⟩ v11).setCell ⟨b, 12, none⟩ v12).setCell ⟨b, 13, none⟩ v13).setCell ⟨b, 14, none⟩ v14).heap[b]? = some (.cells #[v0, v1, v2, v3, v4, v5, v6, v7, v8, v9, v10, v11, v12, v13, v14, c15] ty (0, 0)) := (heap_setCell_same _ b 14 _ ty v14 h13).trans rfl
  have h15 : ((((((((((((((((w.setCell ⟨b, 0, none⟩ v0).setCell ⟨b, 1, none⟩ v1).setCell ⟨b, 2, none⟩ v2).setCell ⟨b, 3, none⟩ v3).setCell ⟨b, 4, none⟩ v4).setCell ⟨b, 5, none⟩ v5).setCell ⟨b, 6, none⟩ v6).setCell ⟨b, 7, none⟩ v7).setCell ⟨b, 8, none⟩ v8).setCell ⟨b, 9, none⟩ v9).setCell ⟨b, 10, none⟩ v10).setCell ⟨b, 11, none⟩ v11).setCell ⟨b, 12, none⟩ v12).setCell ⟨b, 13, none⟩ v13).setCell ⟨b, 14, none⟩ v14).setCell ⟨b, 15, none⟩ v15).heap[b]? = some (.cells #[v0, v1, v2, v3, v4, v5, v6, v7, v8, v9, v10, v11, v12, v13, v14, v15] ty (0, 0)) := (heap_setCell_same _ b 15 _ ty v15 h14).trans rfl
  exact h15
theorem arr_at {w : World} {b : Nat} {f : Nat → Int} (h : w.heap[b]? = some (.cells #[.int .u8 (f 0), .int .u8 (f 1), .int .u8 (f 2), .int .u8 (f 3), .int .u8 (f 4), .int .u8 (f 5), .int .u8 (f 6), .int .u8 (f 7), .int .u8 (f 8), .int .u8 (f 9), .int .u8 (f 10), .int .u8 (f 11), .int .u8 (f 12), .int .u8 (f 13), .int .u8 (f 14), .int .u8 (f 15)] 28 (0, 0))) {j : Nat} (hj : j < 16) : w.cell? ⟨b, j, none⟩ = some (.int .u8 (f j)) := by
  have := arr_cell h (Nat.le_refl 16) (j := j) (u := .int .u8 (f j)) (by rw [bcells, List.map_map, List.getElem?_map, List.getElem?_range hj]; rfl)
  rwa [Nat.zero_add] at this
theorem maskRow_at (f : Nat → Int) (off m i j : Nat) (hj : j < 16) : (maskRow f off m i)[j]? = some (.int .u8 (maskAt f off m i j)) := by
  rw [maskRow, List.getElem?_map, List.getElem?_range hj]; rfl
theorem maskRow_set (f : Nat → Int) (off m k q : Nat) (hq : q = off + k) (hq16 : q < 16) (v : Int) (hv : v = bits .and .u8 (f k) (goMask k m)) : (maskRow f off m k).toArray.setIfInBounds q (.int .u8 v) = (maskRow f off m (k + 1)).toArray := by
  subst hv hq
  rw [List.setIfInBounds_toArray]
  congr 1
  apply List.ext_getElem?
  intro j
  by_cases hj : j < 16
  · rw [maskRow_at _ _ _ _ _ hj]
    by_cases e : j = off + k
    · subst e
      rw [List.getElem?_set_self (by simp [maskRow]; omega)]
      simp [maskAt]
    · rw [List.getElem?_set_ne (fun h => e h.symm), maskRow_at _ _ _ _ _ hj]
      have : (off ≤ j ∧ j - off < k) ↔ (off ≤ j ∧ j - off < k + 1) := by omega
      simp [maskAt, this]
  · rw [List.getElem?_eq_none (by simp [maskRow]; omega), List.getElem?_eq_none (by simp [maskRow]; omega)]
theorem maskRow_cell {w : World} {b : Nat} {f : Nat → Int} {off m i : Nat} (h : w.heap[b]? = some (.cells (maskRow f off m i).toArray 28 (0, 0))) (j : Nat) (hj : j < 16) : w.cell? ⟨b, j, none⟩ = some (.int .u8 (maskAt f off m i j)) := by
  rw [cell_of_row w b j _ 28 (0, 0) h]
  simp only [List.getElem?_toArray]
  exact maskRow_at _ _ _ _ _ hj

set_option maxRecDepth 100000 in
set_option maxHeartbeats 4000000 in
theorem goMask4_any (f : Nat → Int) (m kk : Nat) (w : World) (hm : m ≤ 32) (hk : kk = (m + 7) / 8) :
    Calls Ybaf.prog 12 #[.agg #[.int .u8 (f 0), .int .u8 (f 1), .int .u8 (f 2), .int .u8 (f 3), .int .u8 (f 4), .int .u8 (f 5), .int .u8 (f 6), .int .u8 (f 7), .int .u8 (f 8), .int .u8 (f 9), .int .u8 (f 10), .int .u8 (f 11), .int .u8 (f 12), .int .u8 (f 13), .int .u8 (f 14), .int .u8 (f 15)], .int .i64 m, .int .u16 1] w fun e w' => e = .returned (.agg (maskRow f 12 m kk).toArray) ∧ w.grownBy w' none := by
  have gA := grown_then (@grown2 w (.cells #[.int .u8 (f 0), .int .u8 (f 1), .int .u8 (f 2), .int .u8 (f 3), .int .u8 (f 4), .int .u8 (f 5), .int .u8 (f 6), .int .u8 (f 7), .int .u8 (f 8), .int .u8 (f 9), .int .u8 (f 10), .int .u8 (f 11), .int .u8 (f 12), .int .u8 (f 13), .int .u8 (f 14), .int .u8 (f 15)] 28) (.cells #[.int .u8 0, .int .u8 0, .int .u8 0, .int .u8 0, .int .u8 0, .int .u8 0, .int .u8 0, .int .u8 0, .int .u8 0, .int .u8 0, .int .u8 0, .int .u8 0, .int .u8 0, .int .u8 0, .int .u8 0, .int .u8 0] 28)) (World.grownBy_alloc _ (.cells #[.int .u8 0, .int .u8 0, .int .u8 0, .int .u8 0, .int .u8 0, .int .u8 0, .int .u8 0, .int .u8 0, .int .u8 0, .int .u8 0, .int .u8 255, .int .u8 255, .int .u8 0, .int .u8 0, .int .u8 0, .int .u8 0] 28) none)
  have zA := row_grown (heap_alloc_new w (.cells #[.int .u8 (f 0), .int .u8 (f 1), .int .u8 (f 2), .int .u8 (f 3), .int .u8 (f 4), .int .u8 (f 5), .int .u8 (f 6), .int .u8 (f 7), .int .u8 (f 8), .int .u8 (f 9), .int .u8 (f 10), .int .u8 (f 11), .int .u8 (f 12), .int .u8 (f 13), .int .u8 (f 14), .int .u8 (f 15)] 28)) (@grown2 _ (.cells #[.int .u8 0, .int .u8 0, .int .u8 0, .int .u8 0, .int .u8 0, .int .u8 0, .int .u8 0, .int .u8 0, .int .u8 0, .int .u8 0, .int .u8 0, .int .u8 0, .int .u8 0, .int .u8 0, .int .u8 0, .int .u8 0] 28) (.cells #[.int .u8 0, .int .u8 0, .int .u8 0, .int .u8 0, .int .u8 0, .int .u8 0, .int .u8 0, .int .u8 0, .int .u8 0, .int .u8 0, .int .u8 255, .int .u8 255, .int .u8 0, .int .u8 0, .int .u8 0, .int .u8 0] 28))
  have zB := row_grown (heap_alloc_new (w.alloc (.cells #[.int .u8 (f 0), .int .u8 (f 1), .int .u8 (f 2), .int .u8 (f 3), .int .u8 (f 4), .int .u8 (f 5), .int .u8 (f 6), .int .u8 (f 7), .int .u8 (f 8), .int .u8 (f 9), .int .u8 (f 10), .int .u8 (f 11), .int .u8 (f 12), .int .u8 (f 13), .int .u8 (f 14), .int .u8 (f 15)] 28)) (.cells #[.int .u8 0, .int .u8 0, .int .u8 0, .int .u8 0, .int .u8 0, .int .u8 0, .int .u8 0, .int .u8 0, .int .u8 0, .int .u8 0, .int .u8 0, .int .u8 0, .int .u8 0, .int .u8 0, .int .u8 0, .int .u8 0] 28)) (World.grownBy_alloc _ (.cells #[.int .u8 0, .int .u8 0, .int .u8 0, .int .u8 0, .int .u8 0, .int .u8 0, .int .u8 0, .int .u8 0, .int .u8 0, .int .u8 0, .int .u8 255, .int .u8 255, .int .u8 0, .int .u8 0, .int .u8 0, .int .u8 0] 28) none)
  have zC := heap_alloc_new ((w.alloc (.cells #[.int .u8 (f 0), .int .u8 (f 1), .int .u8 (f 2), .int .u8 (f 3), .int .u8 (f 4), .int .u8 (f 5), .int .u8 (f 6), .int .u8 (f 7), .int .u8 (f 8), .int .u8 (f 9), .int .u8 (f 10), .int .u8 (f 11), .int .u8 (f 12), .int .u8 (f 13), .int .u8 (f 14), .int .u8 (f 15)] 28)).alloc (.cells #[.int .u8 0, .int .u8 0, .int .u8 0, .int .u8 0, .int .u8 0, .int .u8 0, .int .u8 0, .int .u8 0, .int .u8 0, .int .u8 0, .int .u8 0, .int .u8 0, .int .u8 0, .int .u8 0, .int .u8 0, .int .u8 0] 28)) (.cells #[.int .u8 0, .int .u8 0, .int .u8 0, .int .u8 0, .int .u8 0, .int .u8 0, .int .u8 0, .int .u8 0, .int .u8 0, .int .u8 0, .int .u8 255, .int .u8 255, .int .u8 0, .int .u8 0, .int .u8 0, .int .u8 0] 28)
  rw [World.size_alloc] at zB
  rw [World.size_alloc, World.size_alloc] at zC
  have hk16 : 12 + kk ≤ 16 := by omega
  go_enter Ybaf.func12, Ybaf.ntmps12
  go_wp2_with fail
  obtain ⟨W, hW⟩ : ∃ W, W = ((w.alloc (.cells #[.int .u8 (f 0), .int .u8 (f 1), .int .u8 (f 2), .int .u8 (f 3), .int .u8 (f 4), .int .u8 (f 5), .int .u8 (f 6), .int .u8 (f 7), .int .u8 (f 8), .int .u8 (f 9), .int .u8 (f 10), .int .u8 (f 11), .int .u8 (f 12), .int .u8 (f 13), .int .u8 (f 14), .int .u8 (f 15)] 28)).alloc (.cells #[.int .u8 0, .int .u8 0, .int .u8 0, .int .u8 0, .int .u8 0, .int .u8 0, .int .u8 0, .int .u8 0, .int .u8 0, .int .u8 0, .int .u8 0, .int .u8 0, .int .u8 0, .int .u8 0, .int .u8 0, .int .u8 0] 28)).alloc (.cells #[.int .u8 0, .int .u8 0, .int .u8 0, .int .u8 0, .int .u8 0, .int .u8 0, .int .u8 0, .int .u8 0, .int .u8 0, .int .u8 0, .int .u8 255, .int .u8 255, .int .u8 0, .int .u8 0, .int .u8 0, .int .u8 0] 28) := ⟨_, rfl⟩
  rw [← hW] at gA zA zB zC ⊢
  have Hk : Hid (kk = (m + 7) / 8) := hk
  clear hW hk
  go_loopw [9] (fun i wr => ∃ k : Nat, k ≤ kk ∧ i = .int .i64 k ∧ wr.heap[w.heap.size + 1 + 1]? = some (.cells (maskRow f 12 m k).toArray 28 (0, 0)) ∧ wr.heap[w.heap.size]? = some (.cells #[.int .u8 (f 0), .int .u8 (f 1), .int .u8 (f 2), .int .u8 (f 3), .int .u8 (f 4), .int .u8 (f 5), .int .u8 (f 6), .int .u8 (f 7), .int .u8 (f 8), .int .u8 (f 9), .int .u8 (f 10), .int .u8 (f 11), .int .u8 (f 12), .int .u8 (f 13), .int .u8 (f 14), .int .u8 (f 15)] 28 (0, 0)) ∧ wr.heap[w.heap.size + 1]? = some (.cells #[.int .u8 0, .int .u8 0, .int .u8 0, .int .u8 0, .int .u8 0, .int .u8 0, .int .u8 0, .int .u8 0, .int .u8 0, .int .u8 0, .int .u8 0, .int .u8 0, .int .u8 0, .int .u8 0, .int .u8 0, .int .u8 0] 28 (0, 0)) ∧ w.grownBy wr none) (fun i _ => kk - (intOf i).toNat)
  case atStart => exact ⟨0, Nat.zero_le _, rfl, zC, zA, zB, gA⟩
  case round =>
    obtain ⟨k, hkk, rfl, y7, y3, y6, gr⟩ := hrel
    have l7 : w.heap.size + 1 + 1 < wr.heap.size := (Array.getElem?_eq_some_iff.1 y7).1
    by_cases hlt : k < kk
    · have hk8 : 8 * k < m := by have := Hk.out; omega
      have i1 : (k : Int) * 8 < (m : Int) := by omega
      have c3 := arr_at y3 (show k < 16 by omega)
      have c7 : wr.cell? ⟨w.heap.size + 1 + 1, 12 + k, none⟩ = some (.int .u8 0) := by
        rw [maskRow_cell y7 (12 + k) (by omega)]
        have e : maskAt f 12 m k (12 + k) = 0 := by unfold maskAt; simp; omega
        rw [e]
      have f7 := frozen_of_row wr (w.heap.size + 1 + 1) (12 + k) _ 28 y7
      have i2 : (k : Int) < 16 := by omega
      have i3 : 12 + (k : Int) < 16 := by omega
      have HY : Hid (wr.heap[w.heap.size + 1 + 1]? = some (.cells (maskRow f 12 m k).toArray 28 (0, 0)) ∧ wr.heap[w.heap.size]? = some (.cells #[.int .u8 (f 0), .int .u8 (f 1), .int .u8 (f 2), .int .u8 (f 3), .int .u8 (f 4), .int .u8 (f 5), .int .u8 (f 6), .int .u8 (f 7), .int .u8 (f 8), .int .u8 (f 9), .int .u8 (f 10), .int .u8 (f 11), .int .u8 (f 12), .int .u8 (f 13), .int .u8 (f 14), .int .u8 (f 15)] 28 (0, 0)) ∧ wr.heap[w.heap.size + 1]? = some (.cells #[.int .u8 0, .int .u8 0, .int .u8 0, .int .u8 0, .int .u8 0, .int .u8 0, .int .u8 0, .int .u8 0, .int .u8 0, .int .u8 0, .int .u8 0, .int .u8 0, .int .u8 0, .int .u8 0, .int .u8 0, .int .u8 0] 28 (0, 0)) ∧ w.grownBy wr none) := ⟨y7, y3, y6, gr⟩
      clear y7 y3 y6 gr
      by_cases hr : m - k * 8 < 8
      · have i4 : (m : Int) - (k : Int) * 8 < 8 := by omega
        go_wp2_with fail
        have gS := grown_set1 (u := .int .u8 (bits .and .u8 (f k) (255 * 2 ^ (8 - (m - k * 8)) % 256))) (j := 12 + k) (grown_self wr (w.heap.size + 1 + 1))
        refine ⟨⟨k + 1, by omega, by go_num, ?_, ?_, ?_, ?_⟩, ?_⟩
        · rw [heap_setCell_same wr (w.heap.size + 1 + 1) (12 + k) _ 28 _ HY.out.1]
          rw [maskRow_set f 12 m k (12 + k) (by omega) (by omega) _ (by unfold goMask; simp [hr])]
        · exact (gS.block w.heap.size (by omega) (by simp only [ne_eq, Option.some.injEq]; omega)).trans HY.out.2.1
        · exact (gS.block (w.heap.size + 1) (by omega) (by simp only [ne_eq, Option.some.injEq]; omega)).trans HY.out.2.2.1
        · exact grown_set HY.out.2.2.2 (by omega)
        · simp [intOf]; omega
      · have i4 : ¬ ((m : Int) - (k : Int) * 8 < 8) := by omega
        have i5 : 8 ≤ (m : Int) - (k : Int) * 8 := by omega
        go_wp2_with fail
        have gS := grown_set1 (u := .int .u8 (bits .and .u8 (f k) (255))) (j := 12 + k) (grown_self wr (w.heap.size + 1 + 1))
        refine ⟨⟨k + 1, by omega, by go_num, ?_, ?_, ?_, ?_⟩, ?_⟩
        · rw [heap_setCell_same wr (w.heap.size + 1 + 1) (12 + k) _ 28 _ HY.out.1]
          rw [maskRow_set f 12 m k (12 + k) (by omega) (by omega) _ (by unfold goMask; simp [hr])]
        · exact (gS.block w.heap.size (by omega) (by simp only [ne_eq, Option.some.injEq]; omega)).trans HY.out.2.1
        · exact (gS.block (w.heap.size + 1) (by omega) (by simp only [ne_eq, Option.some.injEq]; omega)).trans HY.out.2.2.1
        · exact grown_set HY.out.2.2.2 (by omega)
        · simp [intOf]; omega
    · obtain rfl : k = kk := by omega
      have i1 : ¬ ((k : Int) * 8 < (m : Int)) := by have := Hk.out; omega
      have r0 := maskRow_cell y7 0 (by omega)
      have r1 := maskRow_cell y7 1 (by omega)
      have r2 := maskRow_cell y7 2 (by omega)
      have r3 := maskRow_cell y7 3 (by omega)
      have r4 := maskRow_cell y7 4 (by omega)
      have r5 := maskRow_cell y7 5 (by omega)
      have r6 := maskRow_cell y7 6 (by omega)
      have r7 := maskRow_cell y7 7 (by omega)
      have r8 := maskRow_cell y7 8 (by omega)
      have r9 := maskRow_cell y7 9 (by omega)
      have r10 := maskRow_cell y7 10 (by omega)
      have r11 := maskRow_cell y7 11 (by omega)
      have r12 := maskRow_cell y7 12 (by omega)
      have r13 := maskRow_cell y7 13 (by omega)
      have r14 := maskRow_cell y7 14 (by omega)
      have r15 := maskRow_cell y7 15 (by omega)
      obtain ⟨b0, b1, b2, b3, b4, b5, b6, b7, b8, b9, b10, b11, b12, b13, b14, b15, bf⟩ := row16 y6
      have f0 := bf 0
      have f1 := bf 1
      have f2 := bf 2
      have f3 := bf 3
      have f4 := bf 4
      have f5 := bf 5
      have f6 := bf 6
      have f7 := bf 7
      have f8 := bf 8
      have f9 := bf 9
      have f10 := bf 10
      have f11 := bf 11
      have f12 := bf 12
      have f13 := bf 13
      have f14 := bf 14
      have f15 := bf 15
      have z3 : ((((((((((((((((wr.setCell ⟨w.heap.size + 1, 0, none⟩ (.int .u8 (maskAt f 12 m k 0))).setCell ⟨w.heap.size + 1, 1, none⟩ (.int .u8 (maskAt f 12 m k 1))).setCell ⟨w.heap.size + 1, 2, none⟩ (.int .u8 (maskAt f 12 m k 2))).setCell ⟨w.heap.size + 1, 3, none⟩ (.int .u8 (maskAt f 12 m k 3))).setCell ⟨w.heap.size + 1, 4, none⟩ (.int .u8 (maskAt f 12 m k 4))).setCell ⟨w.heap.size + 1, 5, none⟩ (.int .u8 (maskAt f 12 m k 5))).setCell ⟨w.heap.size + 1, 6, none⟩ (.int .u8 (maskAt f 12 m k 6))).setCell ⟨w.heap.size + 1, 7, none⟩ (.int .u8 (maskAt f 12 m k 7))).setCell ⟨w.heap.size + 1, 8, none⟩ (.int .u8 (maskAt f 12 m k 8))).setCell ⟨w.heap.size + 1, 9, none⟩ (.int .u8 (maskAt f 12 m k 9))).setCell ⟨w.heap.size + 1, 10, none⟩ (.int .u8 (maskAt f 12 m k 10))).setCell ⟨w.heap.size + 1, 11, none⟩ (.int .u8 (maskAt f 12 m k 11))).setCell ⟨w.heap.size + 1, 12, none⟩ (.int .u8 (maskAt f 12 m k 12))).setCell ⟨w.heap.size + 1, 13, none⟩ (.int .u8 (maskAt f 12 m k 13))).setCell ⟨w.heap.size + 1, 14, none⟩ (.int .u8 (maskAt f 12 m k 14))).setCell ⟨w.heap.size + 1, 15, none⟩ (.int .u8 (maskAt f 12 m k 15))).heap[w.heap.size + 1]? = some (.cells #[.int .u8 (maskAt f 12 m k 0), .int .u8 (maskAt f 12 m k 1), .int .u8 (maskAt f 12 m k 2), .int .u8 (maskAt f 12 m k 3), .int .u8 (maskAt f 12 m k 4), .int .u8 (maskAt f 12 m k 5), .int .u8 (maskAt f 12 m k 6), .int .u8 (maskAt f 12 m k 7), .int .u8 (maskAt f 12 m k 8), .int .u8 (maskAt f 12 m k 9), .int .u8 (maskAt f 12 m k 10), .int .u8 (maskAt f 12 m k 11), .int .u8 (maskAt f 12 m k 12), .int .u8 (maskAt f 12 m k 13), .int .u8 (maskAt f 12 m k 14), .int .u8 (maskAt f 12 m k 15)] 28 (0, 0)) := set16v y6
      have gB3 : w.grownBy ((((((((((((((((wr.setCell ⟨w.heap.size + 1, 0, none⟩ (.int .u8 (maskAt f 12 m k 0))).setCell ⟨w.heap.size + 1, 1, none⟩ (.int .u8 (maskAt f 12 m k 1))).setCell ⟨w.heap.size + 1, 2, none⟩ (.int .u8 (maskAt f 12 m k 2))).setCell ⟨w.heap.size + 1, 3, none⟩ (.int .u8 (maskAt f 12 m k 3))).setCell ⟨w.heap.size + 1, 4, none⟩ (.int .u8 (maskAt f 12 m k 4))).setCell ⟨w.heap.size + 1, 5, none⟩ (.int .u8 (maskAt f 12 m k 5))).setCell ⟨w.heap.size + 1, 6, none⟩ (.int .u8 (maskAt f 12 m k 6))).setCell ⟨w.heap.size + 1, 7, none⟩ (.int .u8 (maskAt f 12 m k 7))).setCell ⟨w.heap.size + 1, 8, none⟩ (.int .u8 (maskAt f 12 m k 8))).setCell ⟨w.heap.size + 1, 9, none⟩ (.int .u8 (maskAt f 12 m k 9))).setCell ⟨w.heap.size + 1, 10, none⟩ (.int .u8 (maskAt f 12 m k 10))).setCell ⟨w.heap.size + 1, 11, none⟩ (.int .u8 (maskAt f 12 m k 11))).setCell ⟨w.heap.size + 1, 12, none⟩ (.int .u8 (maskAt f 12 m k 12))).setCell ⟨w.heap.size + 1, 13, none⟩ (.int .u8 (maskAt f 12 m k 13))).setCell ⟨w.heap.size + 1, 14, none⟩ (.int .u8 (maskAt f 12 m k 14))).setCell ⟨w.heap.size + 1, 15, none⟩ (.int .u8 (maskAt f 12 m k 15))) none := grown_set (grown_set (grown_set (grown_set (grown_set (grown_set (grown_set (grown_set (grown_set (grown_set (grown_set (grown_set (grown_set (grown_set (grown_set (grown_set (gr) (by omega)) (by omega)) (by omega)) (by omega)) (by omega)) (by omega)) (by omega)) (by omega)) (by omega)) (by omega)) (by omega)) (by omega)) (by omega)) (by omega)) (by omega)) (by omega)
      clear y7 y3 y6 gr bf
      go_wp2_with fail
      obtain ⟨W3, hW3⟩ : ∃ W3, W3 = ((((((((((((((((wr.setCell ⟨w.heap.size + 1, 0, none⟩ (.int .u8 (maskAt f 12 m k 0))).setCell ⟨w.heap.size + 1, 1, none⟩ (.int .u8 (maskAt f 12 m k 1))).setCell ⟨w.heap.size + 1, 2, none⟩ (.int .u8 (maskAt f 12 m k 2))).setCell ⟨w.heap.size + 1, 3, none⟩ (.int .u8 (maskAt f 12 m k 3))).setCell ⟨w.heap.size + 1, 4, none⟩ (.int .u8 (maskAt f 12 m k 4))).setCell ⟨w.heap.size + 1, 5, none⟩ (.int .u8 (maskAt f 12 m k 5))).setCell ⟨w.heap.size + 1, 6, none⟩ (.int .u8 (maskAt f 12 m k 6))).setCell ⟨w.heap.size + 1, 7, none⟩ (.int .u8 (maskAt f 12 m k 7))).setCell ⟨w.heap.size + 1, 8, none⟩ (.int .u8 (maskAt f 12 m k 8))).setCell ⟨w.heap.size + 1, 9, none⟩ (.int .u8 (maskAt f 12 m k 9))).setCell ⟨w.heap.size + 1, 10, none⟩ (.int .u8 (maskAt f 12 m k 10))).setCell ⟨w.heap.size + 1, 11, none⟩ (.int .u8 (maskAt f 12 m k 11))).setCell ⟨w.heap.size + 1, 12, none⟩ (.int .u8 (maskAt f 12 m k 12))).setCell ⟨w.heap.size + 1, 13, none⟩ (.int .u8 (maskAt f 12 m k 13))).setCell ⟨w.heap.size + 1, 14, none⟩ (.int .u8 (maskAt f 12 m k 14))).setCell ⟨w.heap.size + 1, 15, none⟩ (.int .u8 (maskAt f 12 m k 15))) := ⟨_, rfl⟩
      rw [← hW3] at z3 gB3 ⊢
      obtain ⟨s0, s1, s2, s3, s4, s5, s6, s7, s8, s9, s10, s11, s12, s13, s14, s15, _⟩ := row16 z3
      refine bodyPost_ret (v := .agg #[.int .u8 (maskAt f 12 m k 0), .int .u8 (maskAt f 12 m k 1), .int .u8 (maskAt f 12 m k 2), .int .u8 (maskAt f 12 m k 3), .int .u8 (maskAt f 12 m k 4), .int .u8 (maskAt f 12 m k 5), .int .u8 (maskAt f 12 m k 6), .int .u8 (maskAt f 12 m k 7), .int .u8 (maskAt f 12 m k 8), .int .u8 (maskAt f 12 m k 9), .int .u8 (maskAt f 12 m k 10), .int .u8 (maskAt f 12 m k 11), .int .u8 (maskAt f 12 m k 12), .int .u8 (maskAt f 12 m k 13), .int .u8 (maskAt f 12 m k 14), .int .u8 (maskAt f 12 m k 15)]) (by simp [results, Ybaf.f12, go_sem, s0, s1, s2, s3, s4, s5, s6, s7, s8, s9, s10, s11, s12, s13, s14, s15]) rfl ⟨rfl, gB3⟩

set_option maxRecDepth 100000 in
set_option maxHeartbeats 4000000 in
theorem goMask6_any (f : Nat → Int) (m kk : Nat) (w : World) (hm : m ≤ 128) (hk : kk = (m + 7) / 8) :
    Calls Ybaf.prog 12 #[.agg #[.int .u8 (f 0), .int .u8 (f 1), .int .u8 (f 2), .int .u8 (f 3), .int .u8 (f 4), .int .u8 (f 5), .int .u8 (f 6), .int .u8 (f 7), .int .u8 (f 8), .int .u8 (f 9), .int .u8 (f 10), .int .u8 (f 11), .int .u8 (f 12), .int .u8 (f 13), .int .u8 (f 14), .int .u8 (f 15)], .int .i64 m, .int .u16 2] w fun e w' => e = .returned (.agg (maskRow f 0 m kk).toArray) ∧ w.grownBy w' none := by
  have gA := grown_then (@grown2 w (.cells #[.int .u8 (f 0), .int .u8 (f 1), .int .u8 (f 2), .int .u8 (f 3), .int .u8 (f 4), .int .u8 (f 5), .int .u8 (f 6), .int .u8 (f 7), .int .u8 (f 8), .int .u8 (f 9), .int .u8 (f 10), .int .u8 (f 11), .int .u8 (f 12), .int .u8 (f 13), .int .u8 (f 14), .int .u8 (f 15)] 28) (.cells #[.int .u8 0, .int .u8 0, .int .u8 0, .int .u8 0, .int .u8 0, .int .u8 0, .int .u8 0, .int .u8 0, .int .u8 0, .int .u8 0, .int .u8 0, .int .u8 0, .int .u8 0, .int .u8 0, .int .u8 0, .int .u8 0] 28)) (World.grownBy_alloc _ (.cells #[.int .u8 0, .int .u8 0, .int .u8 0, .int .u8 0, .int .u8 0, .int .u8 0, .int .u8 0, .int .u8 0, .int .u8 0, .int .u8 0, .int .u8 0, .int .u8 0, .int .u8 0, .int .u8 0, .int .u8 0, .int .u8 0] 28) none)
  have zA := row_grown (heap_alloc_new w (.cells #[.int .u8 (f 0), .int .u8 (f 1), .int .u8 (f 2), .int .u8 (f 3), .int .u8 (f 4), .int .u8 (f 5), .int .u8 (f 6), .int .u8 (f 7), .int .u8 (f 8), .int .u8 (f 9), .int .u8 (f 10), .int .u8 (f 11), .int .u8 (f 12), .int .u8 (f 13), .int .u8 (f 14), .int .u8 (f 15)] 28)) (@grown2 _ (.cells #[.int .u8 0, .int .u8 0, .int .u8 0, .int .u8 0, .int .u8 0, .int .u8 0, .int .u8 0, .int .u8 0, .int .u8 0, .int .u8 0, .int .u8 0, .int .u8 0, .int .u8 0, .int .u8 0, .int .u8 0, .int .u8 0] 28) (.cells #[.int .u8 0, .int .u8 0, .int .u8 0, .int .u8 0, .int .u8 0, .int .u8 0, .int .u8 0, .int .u8 0, .int .u8 0, .int .u8 0, .int .u8 0, .int .u8 0, .int .u8 0, .int .u8 0, .int .u8 0, .int .u8 0] 28))
  have zB := row_grown (heap_alloc_new (w.alloc (.cells #[.int .u8 (f 0), .int .u8 (f 1), .int .u8 (f 2), .int .u8 (f 3), .int .u8 (f 4), .int .u8 (f 5), .int .u8 (f 6), .int .u8 (f 7), .int .u8 (f 8), .int .u8 (f 9), .int .u8 (f 10), .int .u8 (f 11), .int .u8 (f 12), .int .u8 (f 13), .int .u8 (f 14), .int .u8 (f 15)] 28)) (.cells #[.int .u8 0, .int .u8 0, .int .u8 0, .int .u8 0, .int .u8 0, .int .u8 0, .int .u8 0, .int .u8 0, .int .u8 0, .int .u8 0, .int .u8 0, .int .u8 0, .int .u8 0, .int .u8 0, .int .u8 0, .int .u8 0] 28)) (World.grownBy_alloc _ (.cells #[.int .u8 0, .int .u8 0, .int .u8 0, .int .u8 0, .int .u8 0, .int .u8 0, .int .u8 0, .int .u8 0, .int .u8 0, .int .u8 0, .int .u8 0, .int .u8 0, .int .u8 0, .int .u8 0, .int .u8 0, .int .u8 0] 28) none)
  have zC := heap_alloc_new ((w.alloc (.cells #[.int .u8 (f 0), .int .u8 (f 1), .int .u8 (f 2), .int .u8 (f 3), .int .u8 (f 4), .int .u8 (f 5), .int .u8 (f 6), .int .u8 (f 7), .int .u8 (f 8), .int .u8 (f 9), .int .u8 (f 10), .int .u8 (f 11), .int .u8 (f 12), .int .u8 (f 13), .int .u8 (f 14), .int .u8 (f 15)] 28)).alloc (.cells #[.int .u8 0, .int .u8 0, .int .u8 0, .int .u8 0, .int .u8 0, .int .u8 0, .int .u8 0, .int .u8 0, .int .u8 0, .int .u8 0, .int .u8 0, .int .u8 0, .int .u8 0, .int .u8 0, .int .u8 0, .int .u8 0] 28)) (.cells #[.int .u8 0, .int .u8 0, .int .u8 0, .int .u8 0, .int .u8 0, .int .u8 0, .int .u8 0, .int .u8 0, .int .u8 0, .int .u8 0, .int .u8 0, .int .u8 0, .int .u8 0, .int .u8 0, .int .u8 0, .int .u8 0] 28)
  rw [World.size_alloc] at zB
  rw [World.size_alloc, World.size_alloc] at zC
  have hk16 : 0 + kk ≤ 16 := by omega
  go_enter Ybaf.func12, Ybaf.ntmps12
  go_wp2_with fail
  obtain ⟨W, hW⟩ : ∃ W, W = ((w.alloc (.cells #[.int .u8 (f 0), .int .u8 (f 1), .int .u8 (f 2), .int .u8 (f 3), .int .u8 (f 4), .int .u8 (f 5), .int .u8 (f 6), .int .u8 (f 7), .int .u8 (f 8), .int .u8 (f 9), .int .u8 (f 10), .int .u8 (f 11), .int .u8 (f 12), .int .u8 (f 13), .int .u8 (f 14), .int .u8 (f 15)] 28)).alloc (.cells #[.int .u8 0, .int .u8 0, .int .u8 0, .int .u8 0, .int .u8 0, .int .u8 0, .int .u8 0, .int .u8 0, .int .u8 0, .int .u8 0, .int .u8 0, .int .u8 0, .int .u8 0, .int .u8 0, .int .u8 0, .int .u8 0] 28)).alloc (.cells #[.int .u8 0, .int .u8 0, .int .u8 0, .int .u8 0, .int .u8 0, .int .u8 0, .int .u8 0, .int .u8 0, .int .u8 0, .int .u8 0, .int .u8 0, .int .u8 0, .int .u8 0, .int .u8 0, .int .u8 0, .int .u8 0] 28) := ⟨_, rfl⟩
  rw [← hW] at gA zA zB zC ⊢
  have Hk : Hid (kk = (m + 7) / 8) := hk
  clear hW hk
  go_loopw [9] (fun i wr => ∃ k : Nat, k ≤ kk ∧ i = .int .i64 k ∧ wr.heap[w.heap.size + 1 + 1]? = some (.cells (maskRow f 0 m k).toArray 28 (0, 0)) ∧ wr.heap[w.heap.size]? = some (.cells #[.int .u8 (f 0), .int .u8 (f 1), .int .u8 (f 2), .int .u8 (f 3), .int .u8 (f 4), .int .u8 (f 5), .int .u8 (f 6), .int .u8 (f 7), .int .u8 (f 8), .int .u8 (f 9), .int .u8 (f 10), .int .u8 (f 11), .int .u8 (f 12), .int .u8 (f 13), .int .u8 (f 14), .int .u8 (f 15)] 28 (0, 0)) ∧ wr.heap[w.heap.size + 1]? = some (.cells #[.int .u8 0, .int .u8 0, .int .u8 0, .int .u8 0, .int .u8 0, .int .u8 0, .int .u8 0, .int .u8 0, .int .u8 0, .int .u8 0, .int .u8 0, .int .u8 0, .int .u8 0, .int .u8 0, .int .u8 0, .int .u8 0] 28 (0, 0)) ∧ w.grownBy wr none) (fun i _ => kk - (intOf i).toNat)
  case atStart => exact ⟨0, Nat.zero_le _, rfl, zC, zA, zB, gA⟩
  case round =>
    obtain ⟨k, hkk, rfl, y7, y3, y6, gr⟩ := hrel
    have l7 : w.heap.size + 1 + 1 < wr.heap.size := (Array.getElem?_eq_some_iff.1 y7).1
    by_cases hlt : k < kk
    · have hk8 : 8 * k < m := by have := Hk.out; omega
      have i1 : (k : Int) * 8 < (m : Int) := by omega
      have c3 := arr_at y3 (show k < 16 by omega)
      have c7 : wr.cell? ⟨w.heap.size + 1 + 1, k, none⟩ = some (.int .u8 0) := by
        rw [maskRow_cell y7 (k) (by omega)]
        have e : maskAt f 0 m k (k) = 0 := by unfold maskAt; simp
        rw [e]
      have f7 := frozen_of_row wr (w.heap.size + 1 + 1) (k) _ 28 y7
      have i2 : (k : Int) < 16 := by omega
      have i3 : (k : Int) < 16 := by omega
      have HY : Hid (wr.heap[w.heap.size + 1 + 1]? = some (.cells (maskRow f 0 m k).toArray 28 (0, 0)) ∧ wr.heap[w.heap.size]? = some (.cells #[.int .u8 (f 0), .int .u8 (f 1), .int .u8 (f 2), .int .u8 (f 3), .int .u8 (f 4), .int .u8 (f 5), .int .u8 (f 6), .int .u8 (f 7), .int .u8 (f 8), .int .u8 (f 9), .int .u8 (f 10), .int .u8 (f 11), .int .u8 (f 12), .int .u8 (f 13), .int .u8 (f 14), .int .u8 (f 15)] 28 (0, 0)) ∧ wr.heap[w.heap.size + 1]? = some (.cells #[.int .u8 0, .int .u8 0, .int .u8 0, .int .u8 0, .int .u8 0, .int .u8 0, .int .u8 0, .int .u8 0, .int .u8 0, .int .u8 0, .int .u8 0, .int .u8 0, .int .u8 0, .int .u8 0, .int .u8 0, .int .u8 0] 28 (0, 0)) ∧ w.grownBy wr none) := ⟨y7, y3, y6, gr⟩
      clear y7 y3 y6 gr
      by_cases hr : m - k * 8 < 8
      · have i4 : (m : Int) - (k : Int) * 8 < 8 := by omega
        go_wp2_with fail
        have gS := grown_set1 (u := .int .u8 (bits .and .u8 (f k) (255 * 2 ^ (8 - (m - k * 8)) % 256))) (j := k) (grown_self wr (w.heap.size + 1 + 1))
        refine ⟨⟨k + 1, by omega, by go_num, ?_, ?_, ?_, ?_⟩, ?_⟩
        · rw [heap_setCell_same wr (w.heap.size + 1 + 1) (k) _ 28 _ HY.out.1]
          rw [maskRow_set f 0 m k (k) (by omega) (by omega) _ (by unfold goMask; simp [hr])]
        · exact (gS.block w.heap.size (by omega) (by simp only [ne_eq, Option.some.injEq]; omega)).trans HY.out.2.1
        · exact (gS.block (w.heap.size + 1) (by omega) (by simp only [ne_eq, Option.some.injEq]; omega)).trans HY.out.2.2.1
        · exact grown_set HY.out.2.2.2 (by omega)
        · simp [intOf]; omega
      · have i4 : ¬ ((m : Int) - (k : Int) * 8 < 8) := by omega
        have i5 : 8 ≤ (m : Int) - (k : Int) * 8 := by omega
        go_wp2_with fail
        have gS := grown_set1 (u := .int .u8 (bits .and .u8 (f k) (255))) (j := k) (grown_self wr (w.heap.size + 1 + 1))
        refine ⟨⟨k + 1, by omega, by go_num, ?_, ?_, ?_, ?_⟩, ?_⟩
        · rw [heap_setCell_same wr (w.heap.size + 1 + 1) (k) _ 28 _ HY.out.1]
          rw [maskRow_set f 0 m k (k) (by omega) (by omega) _ (by unfold goMask; simp [hr])]
        · exact (gS.block w.heap.size (by omega) (by simp only [ne_eq, Option.some.injEq]; omega)).trans HY.out.2.1
        · exact (gS.block (w.heap.size + 1) (by omega) (by simp only [ne_eq, Option.some.injEq]; omega)).trans HY.out.2.2.1
        · exact grown_set HY.out.2.2.2 (by omega)
        · simp [intOf]; omega
    · obtain rfl : k = kk := by omega
      have i1 : ¬ ((k : Int) * 8 < (m : Int)) := by have := Hk.out; omega
      have r0 := maskRow_cell y7 0 (by omega)
      have r1 := maskRow_cell y7 1 (by omega)
      have r2 := maskRow_cell y7 2 (by omega)
      have r3 := maskRow_cell y7 3 (by omega)
      have r4 := maskRow_cell y7 4 (by omega)
      have r5 := maskRow_cell y7 5 (by omega)
      have r6 := maskRow_cell y7 6 (by omega)
      have r7 := maskRow_cell y7 7 (by omega)
      have r8 := maskRow_cell y7 8 (by omega)
      have r9 := maskRow_cell y7 9 (by omega)
      have r10 := maskRow_cell y7 10 (by omega)
      have r11 := maskRow_cell y7 11 (by omega)
      have r12 := maskRow_cell y7 12 (by omega)
      have r13 := maskRow_cell y7 13 (by omega)
      have r14 := maskRow_cell y7 14 (by omega)
      have r15 := maskRow_cell y7 15 (by omega)
      obtain ⟨b0, b1, b2, b3, b4, b5, b6, b7, b8, b9, b10, b11, b12, b13, b14, b15, bf⟩ := row16 y6
      have f0 := bf 0
      have f1 := bf 1
      have f2 := bf 2
      have f3 := bf 3
      have f4 := bf 4
      have f5 := bf 5
      have f6 := bf 6
      have f7 := bf 7
      have f8 := bf 8
      have f9 := bf 9
      have f10 := bf 10
      have f11 := bf 11
      have f12 := bf 12
      have f13 := bf 13
      have f14 := bf 14
      have f15 := bf 15
      have z3 : ((((((((((((((((wr.setCell ⟨w.heap.size + 1, 0, none⟩ (.int .u8 (maskAt f 0 m k 0))).setCell ⟨w.heap.size + 1, 1, none⟩ (.int .u8 (maskAt f 0 m k 1))).setCell ⟨w.heap.size + 1, 2, none⟩ (.int .u8 (maskAt f 0 m k 2))).setCell ⟨w.heap.size + 1, 3, none⟩ (.int .u8 (maskAt f 0 m k 3))).setCell ⟨w.heap.size + 1, 4, none⟩ (.int .u8 (maskAt f 0 m k 4))).setCell ⟨w.heap.size + 1, 5, none⟩ (.int .u8 (maskAt f 0 m k 5))).setCell ⟨w.heap.size + 1, 6, none⟩ (.int .u8 (maskAt f 0 m k 6))).setCell ⟨w.heap.size + 1, 7, none⟩ (.int .u8 (maskAt f 0 m k 7))).setCell ⟨w.heap.size + 1, 8, none⟩ (.int .u8 (maskAt f 0 m k 8))).setCell ⟨w.heap.size + 1, 9, none⟩ (.int .u8 (maskAt f 0 m k 9))).setCell ⟨w.heap.size + 1, 10, none⟩ (.int .u8 (maskAt f 0 m k 10))).setCell ⟨w.heap.size + 1, 11, none⟩ (.int .u8 (maskAt f 0 m k 11))).setCell ⟨w.heap.size + 1, 12, none⟩ (.int .u8 (maskAt f 0 m k 12))).setCell ⟨w.heap.size + 1, 13, none⟩ (.int .u8 (maskAt f 0 m k 13))).setCell ⟨w.heap.size + 1, 14, none⟩ (.int .u8 (maskAt f 0 m k 14))).setCell ⟨w.heap.size + 1, 15, none⟩ (.int .u8 (maskAt f 0 m k 15))).heap[w.heap.size + 1]? = some (.cells #[.int .u8 (maskAt f 0 m k 0), .int .u8 (maskAt f 0 m k 1), .int .u8 (maskAt f 0 m k 2), .int .u8 (maskAt f 0 m k 3), .int .u8 (maskAt f 0 m k 4), .int .u8 (maskAt f 0 m k 5), .int .u8 (maskAt f 0 m k 6), .int .u8 (maskAt f 0 m k 7), .int .u8 (maskAt f 0 m k 8), .int .u8 (maskAt f 0 m k 9), .int .u8 (maskAt f 0 m k 10), .int .u8 (maskAt f 0 m k 11), .int .u8 (maskAt f 0 m k 12), .int .u8 (maskAt f 0 m k 13), .int .u8 (maskAt f 0 m k 14), .int .u8 (maskAt f 0 m k 15)] 28 (0, 0)) := set16v y6
      have gB3 : w.grownBy ((((((((((((((((wr.setCell ⟨w.heap.size + 1, 0, none⟩ (.int .u8 (maskAt f 0 m k 0))).setCell ⟨w.heap.size + 1, 1, none⟩ (.int .u8 (maskAt f 0 m k 1))).setCell ⟨w.heap.size + 1, 2, none⟩ (.int .u8 (maskAt f 0 m k 2))).setCell ⟨w.heap.size + 1, 3, none⟩ (.int .u8 (maskAt f 0 m k 3))).setCell ⟨w.heap.size + 1, 4, none⟩ (.int .u8 (maskAt f 0 m k 4))).setCell ⟨w.heap.size + 1, 5, none⟩ (.int .u8 (maskAt f 0 m k 5))).setCell ⟨w.heap.size + 1, 6, none⟩ (.int .u8 (maskAt f 0 m k 6))).setCell ⟨w.heap.size + 1, 7, none⟩ (.int .u8 (maskAt f 0 m k 7))).setCell ⟨w.heap.size + 1, 8, none⟩ (.int .u8 (maskAt f 0 m k 8))).setCell ⟨w.heap.size + 1, 9, none⟩ (.int .u8 (maskAt f 0 m k 9))).setCell ⟨w.heap.size + 1, 10, none⟩ (.int .u8 (maskAt f 0 m k 10))).setCell ⟨w.heap.size + 1, 11, none⟩ (.int .u8 (maskAt f 0 m k 11))).setCell ⟨w.heap.size + 1, 12, none⟩ (.int .u8 (maskAt f 0 m k 12))).setCell ⟨w.heap.size + 1, 13, none⟩ (.int .u8 (maskAt f 0 m k 13))).setCell ⟨w.heap.size + 1, 14, none⟩ (.int .u8 (maskAt f 0 m k 14))).setCell ⟨w.heap.size + 1, 15, none⟩ (.int .u8 (maskAt f 0 m k 15))) none := grown_set (grown_set (grown_set (grown_set (grown_set (grown_set (grown_set (grown_set (grown_set (grown_set (grown_set (grown_set (grown_set (grown_set (grown_set (grown_set (gr) (by omega)) (by omega)) (by omega)) (by omega)) (by omega)) (by omega)) (by omega)) (by omega)) (by omega)) (by omega)) (by omega)) (by omega)) (by omega)) (by omega)) (by omega)) (by omega)
      clear y7 y3 y6 gr bf
      go_wp2_with fail
      obtain ⟨W3, hW3⟩ : ∃ W3, W3 = ((((((((((((((((wr.setCell ⟨w.heap.size + 1, 0, none⟩ (.int .u8 (maskAt f 0 m k 0))).setCell ⟨w.heap.size + 1, 1, none⟩ (.int .u8 (maskAt f 0 m k 1))).setCell ⟨w.heap.size + 1, 2, none⟩ (.int .u8 (maskAt f 0 m k 2))).setCell ⟨w.heap.size + 1, 3, none⟩ (.int .u8 (maskAt f 0 m k 3))).setCell ⟨w.heap.size + 1, 4, none⟩ (.int .u8 (maskAt f 0 m k 4))).setCell ⟨w.heap.size + 1, 5, none⟩ (.int .u8 (maskAt f 0 m k 5))).setCell ⟨w.heap.size + 1, 6, none⟩ (.int .u8 (maskAt f 0 m k 6))).setCell ⟨w.heap.size + 1, 7, none⟩ (.int .u8 (maskAt f 0 m k 7))).setCell ⟨w.heap.size + 1, 8, none⟩ (.int .u8 (maskAt f 0 m k 8))).setCell ⟨w.heap.size + 1, 9, none⟩ (.int .u8 (maskAt f 0 m k 9))).setCell ⟨w.heap.size + 1, 10, none⟩ (.int .u8 (maskAt f 0 m k 10))).setCell ⟨w.heap.size + 1, 11, none⟩ (.int .u8 (maskAt f 0 m k 11))).setCell ⟨w.heap.size + 1, 12, none⟩ (.int .u8 (maskAt f 0 m k 12))).setCell ⟨w.heap.size + 1, 13, none⟩ (.int .u8 (maskAt f 0 m k 13))).setCell ⟨w.heap.size + 1, 14, none⟩ (.int .u8 (maskAt f 0 m k 14))).setCell ⟨w.heap.size + 1, 15, none⟩ (.int .u8 (maskAt f 0 m k 15))) := ⟨_, rfl⟩
      rw [← hW3] at z3 gB3 ⊢
      obtain ⟨s0, s1, s2, s3, s4, s5, s6, s7, s8, s9, s10, s11, s12, s13, s14, s15, _⟩ := row16 z3
      refine bodyPost_ret (v := .agg #[.int .u8 (maskAt f 0 m k 0), .int .u8 (maskAt f 0 m k 1), .int .u8 (maskAt f 0 m k 2), .int .u8 (maskAt f 0 m k 3), .int .u8 (maskAt f 0 m k 4), .int .u8 (maskAt f 0 m k 5), .int .u8 (maskAt f 0 m k 6), .int .u8 (maskAt f 0 m k 7), .int .u8 (maskAt f 0 m k 8), .int .u8 (maskAt f 0 m k 9), .int .u8 (maskAt f 0 m k 10), .int .u8 (maskAt f 0 m k 11), .int .u8 (maskAt f 0 m k 12), .int .u8 (maskAt f 0 m k 13), .int .u8 (maskAt f 0 m k 14), .int .u8 (maskAt f 0 m k 15)]) (by simp [results, Ybaf.f12, go_sem, s0, s1, s2, s3, s4, s5, s6, s7, s8, s9, s10, s11, s12, s13, s14, s15]) rfl ⟨rfl, gB3⟩

end Go.Proofs.YbulkaigaFmt
