import Derived.Test.YbulkaigaFmtPrefix
import Derived.Test.YbulkaigaFmtOrders
import Derived.Deep.RegionLaw
namespace Go.Proofs.YbulkaigaFmt
open Go.RowKit Go.Extern.Stop Go.Stop Go.Extern

/-- The bytes that are given, then zeros. -/
def padded (l : List Int) (i : Nat) : Int := l.getD i 0

/-- The prefixes that are read: the address under the mask, and how long it is. -/
def low4 (f : Nat → Int) : Int := bits .or .u64 (bits .or .u64 (bits .or .u64 (bits .or .u64 281470681743360 (f 0 * 16777216)) (f 1 * 65536)) (f 2 * 256)) (f 3)
def pfx4 (a4 : Go.Addr) (f : Nat → Int) (m : Nat) : Value := pfxVal a4 (bits .and .u64 0 (mhi (m + 96))) (bits .and .u64 (low4 f) (mlo (m + 96))) m
def pfx6 (a6 : Go.Addr) (f : Nat → Int) (m : Nat) : Value := pfxVal a6 (bits .and .u64 (hi16 f) (mhi m)) (bits .and .u64 (lo16 f) (mlo m)) m

theorem ret_row4 {w6 : World} {b : Nat} {x y z t x' y' z' t' : Value} {ty : TypeId} (o : Obj) (h : w6.heap[b]? = some (.cells #[x', y', z', t'] ty (0, 0))) :
    (((((w6.setCell ⟨b, 0, none⟩ x).setCell ⟨b, 1, none⟩ y).setCell ⟨b, 2, none⟩ z).setCell ⟨b, 3, none⟩ t).alloc o).heap[b]? = some (.cells #[x, y, z, t] ty (0, 0)) := by
  have h1 := heap_setCell_same w6 b 0 _ ty x h
  have h2 := heap_setCell_same _ b 1 _ ty y h1
  have h3 := heap_setCell_same _ b 2 _ ty z h2
  have h4 := heap_setCell_same _ b 3 _ ty t h3
  exact row_grown h4 (World.grownBy_alloc _ o none)

theorem add_off (g o j : Nat) : (⟨g, o, none⟩ : Go.Addr).add j = ⟨g, o + j, none⟩ := by
  unfold Addr.add
  split <;> simp_all

theorem pad_cell {w : World} {g k : Nat} {l : List Int} (hl : l.length = k) (hk : k ≤ 16) (h : w.heap[g]? = some (.cells (splice (List.replicate 16 (.int .u8 0)) 0 (bcells l)).toArray 28 (0, 0))) (i : Nat) (hi : i < 16) :
    w.cell? ⟨g, i, none⟩ = some (.int .u8 (padded l i)) := by
  rw [cell_of_row w g i _ 28 (0, 0) h]
  have hb : (bcells l).length = k := by rw [bcells_length, hl]
  simp only [splice, List.take_zero, List.nil_append, Nat.zero_add, hb, List.getElem?_toArray]
  by_cases hik : i < k
  · rw [List.getElem?_append_left (by omega), bcells, List.getElem?_map, List.getElem?_eq_getElem (by omega)]
    simp [padded, List.getD, List.getElem?_eq_getElem (show i < l.length by omega)]
  · rw [List.getElem?_append_right (by omega), hb]
    have : l[i]? = none := List.getElem?_eq_none (by omega)
    rw [List.drop_replicate, List.getElem?_replicate, if_pos (by omega)]
    simp [padded, List.getD, this]

theorem padded_range {l : List Int} (hr : ∀ x ∈ l, 0 ≤ x ∧ x ≤ 255) (i : Nat) : 0 ≤ padded l i ∧ padded l i ≤ 255 := by
  unfold padded
  rw [List.getD]
  cases h : l[i]? with
  | none => simp
  | some x => exact hr x (List.mem_of_getElem? h)

theorem below_grown {w W w4 : World} {B : Nat} (hg : w.grownBy W none) (hb : Below B W w4) (hB : w.heap.size ≤ B) : w.grownBy w4 none :=
  ⟨hb.os.trans hg.os, hb.tape.trans hg.tape, hb.output.trans hg.output, Nat.le_trans hg.size hb.size, fun k hk hr => (hb.block k (by omega)).trans (hg.block k hk hr)⟩

set_option maxRecDepth 100000 in
set_option maxHeartbeats 4000000 in
theorem readPrefix_ok6 (a4 a6 : Go.Addr) (g o n c m k : Nat) (l : List Int) (w : World) (hM : Marks w a4 a6) (hg : g < w.heap.size) (hb : w.cell? ⟨g, o, none⟩ = some (.int .u8 m)) (hm : m ≤ 128)
    (hk : k = (m + 7) / 8) (hl : l.length = k) (hr : ∀ x ∈ l, 0 ≤ x ∧ x ≤ 255) (hL : Lies w g (o + 1) l) (hn : 1 + k ≤ n) (hN : n ≤ 1000000) (hc : 1 + k < c) :
    Calls Ybaf.prog 25 #[.slice (some ⟨g, o, none⟩) n c, .int .u16 2] w fun e w' => e = .returned (.tuple #[pfx6 a6 (padded l) m, .slice (some ⟨g, o + (1 + k), none⟩) (n - (1 + k)) (c - (1 + k)), .nilIface]) ∧ w.grownBy w' none := by
  have n1 : ¬ (n : Int) = 0 := by omega
  have n2 : ¬ (n : Int) - 1 < (k : Int) := by omega
  have n2b : decide ((n : Int) - 1 < (k : Int)) = false := by simp; omega
  have n2c : (k : Int) ≤ (n : Int) - 1 := by omega
  have n3 : ((m : Int) + 7).tdiv 8 = (k : Int) := by rw [Int.tdiv_eq_ediv_of_nonneg (by omega)]; omega
  have n4 : ¬ n = 0 := by omega
  have n5 : 0 < n := by omega
  have n6 : k ≤ 16 := by omega
  have n7 : (1 : Int) ≤ 1 + (k : Int) := by omega
  have n8 : 1 + (k : Int) ≤ (c : Int) := by omega
  have n9 : (1 + (k : Int)).toNat = 1 + k := by omega
  have n10 : 1 + k - 1 = k := by omega
  have n12 : IntKind.i64.wrap (1 + (k : Int)) = 1 + (k : Int) := by simp [IntKind.wrap, IntKind.bits, IntKind.signed]; omega
  have n11 : ¬ c = 1 := by omega
  clear hk
  go_enter Ybaf.func25, Ybaf.ntmps25
  go_wp2_with (go_at_call 9; go_must (refine (check_fits _ _ _ (by omega)).mono ?_; rintro e w1 ⟨rfl, rfl⟩))
  have hrow : ((w.alloc (.cells #[.int .u64 0, .int .u64 0, .pointer none, .int .u8 0] 47)).alloc (.cells #[.int .u8 0, .int .u8 0, .int .u8 0, .int .u8 0, .int .u8 0, .int .u8 0, .int .u8 0, .int .u8 0, .int .u8 0, .int .u8 0, .int .u8 0, .int .u8 0, .int .u8 0, .int .u8 0, .int .u8 0, .int .u8 0] 28)).drew.heap[w.heap.size + 1]? = some (.cells (List.toArray (List.replicate 16 (.int .u8 0))) 28 (0, 0)) := by rw [← World.size_alloc w (.cells #[.int .u64 0, .int .u64 0, .pointer none, .int .u8 0] 47)]; exact heap_alloc_new _ _
  have hsrc : ∀ j v, (bcells l)[j]? = some v → ((w.alloc (.cells #[.int .u64 0, .int .u64 0, .pointer none, .int .u8 0] 47)).alloc (.cells #[.int .u8 0, .int .u8 0, .int .u8 0, .int .u8 0, .int .u8 0, .int .u8 0, .int .u8 0, .int .u8 0, .int .u8 0, .int .u8 0, .int .u8 0, .int .u8 0, .int .u8 0, .int .u8 0, .int .u8 0, .int .u8 0] 28)).drew.cell? ((⟨g, o + 1, none⟩ : Go.Addr).add j) = some v := by
    intro j v hj
    rw [bcells, List.getElem?_map] at hj
    obtain ⟨z, hz, rfl⟩ := Option.map_eq_some_iff.mp hj
    exact (grown_drew' (@grown2 w (.cells #[.int .u64 0, .int .u64 0, .pointer none, .int .u8 0] 47) (.cells #[.int .u8 0, .int .u8 0, .int .u8 0, .int .u8 0, .int .u8 0, .int .u8 0, .int .u8 0, .int .u8 0, .int .u8 0, .int .u8 0, .int .u8 0, .int .u8 0, .int .u8 0, .int .u8 0, .int .u8 0, .int .u8 0] 28))).cell (by rw [add_off]; exact hL j z hz) (by simp)
  have hlen : (bcells l).length = Nat.min k 16 := by rw [bcells_length, hl]; exact (Nat.min_eq_left n6).symm
  have hbel : Below (w.heap.size + 1) ((w.alloc (.cells #[.int .u64 0, .int .u64 0, .pointer none, .int .u8 0] 47)).alloc (.cells #[.int .u8 0, .int .u8 0, .int .u8 0, .int .u8 0, .int .u8 0, .int .u8 0, .int .u8 0, .int .u8 0, .int .u8 0, .int .u8 0, .int .u8 0, .int .u8 0, .int .u8 0, .int .u8 0, .int .u8 0, .int .u8 0] 28)).drew ((w.alloc (.cells #[.int .u64 0, .int .u64 0, .pointer none, .int .u8 0] 47)).alloc (.cells #[.int .u8 0, .int .u8 0, .int .u8 0, .int .u8 0, .int .u8 0, .int .u8 0, .int .u8 0, .int .u8 0, .int .u8 0, .int .u8 0, .int .u8 0, .int .u8 0, .int .u8 0, .int .u8 0, .int .u8 0, .int .u8 0] 28)).drew := Below.refl _ _
  go_region_law (refine step_copy_splice rfl (.tmp 46) (.tmp 50) 31 31 rfl 5 Ybaf.underlying31 (by kernel_rfl) (some ⟨w.heap.size + 1, 0, none⟩) (some ⟨g, o + 1, none⟩) 16 16 k (c - 1) (by rfl) (by rfl) (w.heap.size + 1) 0 (List.replicate 16 (.int .u8 0)) 28 hrow (bcells l) hlen (fun _ => ⟨rfl, _, rfl, hsrc⟩) (by rw [bcells_length, hl, List.length_replicate]; omega) (bcells_one l) (w.heap.size + 1) _ hbel (Nat.le_refl _) ?_; intro w4 hg4 hb4)
  have c0 := pad_cell hl n6 hg4.out 0 (by omega)
  have c1 := pad_cell hl n6 hg4.out 1 (by omega)
  have c2 := pad_cell hl n6 hg4.out 2 (by omega)
  have c3 := pad_cell hl n6 hg4.out 3 (by omega)
  have c4 := pad_cell hl n6 hg4.out 4 (by omega)
  have c5 := pad_cell hl n6 hg4.out 5 (by omega)
  have c6 := pad_cell hl n6 hg4.out 6 (by omega)
  have c7 := pad_cell hl n6 hg4.out 7 (by omega)
  have c8 := pad_cell hl n6 hg4.out 8 (by omega)
  have c9 := pad_cell hl n6 hg4.out 9 (by omega)
  have c10 := pad_cell hl n6 hg4.out 10 (by omega)
  have c11 := pad_cell hl n6 hg4.out 11 (by omega)
  have c12 := pad_cell hl n6 hg4.out 12 (by omega)
  have c13 := pad_cell hl n6 hg4.out 13 (by omega)
  have c14 := pad_cell hl n6 hg4.out 14 (by omega)
  have c15 := pad_cell hl n6 hg4.out 15 (by omega)
  have g4 : w.grownBy w4 none := below_grown (grown_drew' (@grown2 w (.cells #[.int .u64 0, .int .u64 0, .pointer none, .int .u8 0] 47) (.cells #[.int .u8 0, .int .u8 0, .int .u8 0, .int .u8 0, .int .u8 0, .int .u8 0, .int .u8 0, .int .u8 0, .int .u8 0, .int .u8 0, .int .u8 0, .int .u8 0, .int .u8 0, .int .u8 0, .int .u8 0, .int .u8 0] 28))) hb4 (by omega)
  have z4 : w4.heap[w.heap.size]? = some (.cells #[.int .u64 0, .int .u64 0, .pointer none, .int .u8 0] 47 (0, 0)) := (hb4.block w.heap.size (by omega)).trans (row_grown (heap_alloc_new w _) (grown_drew' (World.grownBy_alloc _ (.cells #[.int .u8 0, .int .u8 0, .int .u8 0, .int .u8 0, .int .u8 0, .int .u8 0, .int .u8 0, .int .u8 0, .int .u8 0, .int .u8 0, .int .u8 0, .int .u8 0, .int .u8 0, .int .u8 0, .int .u8 0, .int .u8 0] 28) none)))
  have hM4 := hM.grown g4
  have hpr := padded_range hr
  clear hg4 hb4 hrow hsrc hlen hbel
  go_wp2_with (first
    | (go_at_call 30; go_must (refine (addrFrom16_any a4 a6 (padded l) w4 hpr hM4).mono ?_; rintro e w5 ⟨rfl, g5⟩; unfold addrVal))
    | (go_at_call 32; go_must (refine (prefix6_any a4 a6 (hi16 (padded l)) (lo16 (padded l)) m _ hm (hM4.grown (grown_then g5 (World.grownBy_alloc w5 _ none)))).mono ?_; rintro e w6 ⟨rfl, g6⟩; unfold pfxVal)))
  have zr := row_grown z4 (grown_then g5 (grown_then (World.grownBy_alloc w5 _ none) g6))
  obtain ⟨k0, k1, k2, k3, kf⟩ := row4 zr
  have kz := kf 0
  have ky := kf 1
  have kx := kf 2
  have ku := kf 3
  have hlt : w.heap.size < w6.heap.size := World.block_lt_of_cell? w6 _ k0
  have hgg : w.grownBy w6 none := grown_then g4 (grown_then g5 (grown_then (World.grownBy_alloc w5 _ none) g6))
  have p1 : 1 + (k : Int) ≤ (n : Int) := by omega
  have p2 : ¬ c = 1 + k := by omega
  clear c0 c1 c2 c3 c4 c5 c6 c7 c8 c9 c10 c11 c12 c13 c14 c15 z4 g4 g5 g6 hM4 hM hL hb hpr
  go_region
  go_wp2_with fail
  obtain ⟨r0, r1, r2, r3, _⟩ := row4 (ret_row4 (x := .int .u64 (bits .and .u64 (hi16 (padded l)) (mhi m))) (y := .int .u64 (bits .and .u64 (lo16 (padded l)) (mlo m))) (z := .pointer (some a6)) (t := .int .u8 (m + 1)) (.cells #[.int .u64 (bits .and .u64 (hi16 (padded l)) (mhi m)), .int .u64 (bits .and .u64 (lo16 (padded l)) (mlo m)), .pointer (some a6), .int .u8 (m + 1)] 47) zr)
  refine bodyPost_ret (v := .tuple #[pfx6 a6 (padded l) m, .slice (some ⟨g, o + (1 + k), none⟩) (n - (1 + k)) (c - (1 + k)), .nilIface]) (by simp [results, Ybaf.f25, go_sem, r0, r1, r2, r3, pfx6, pfxVal]) rfl ⟨rfl, ?_⟩
  exact grown_drew' (grown_alloc' (grown_set (grown_set (grown_set (grown_set hgg (Nat.le_refl _)) (Nat.le_refl _)) (Nat.le_refl _)) (Nat.le_refl _)))
end Go.Proofs.YbulkaigaFmt
