import Derived.Test.YbulkaigaFmtMaskPlain
import Derived.Test.YbulkaigaFmtUnite
import Derived.Test.YbulkaigaFmtMask
namespace Go.Proofs.YbulkaigaFmt
open Go.RowKit

theorem mhi_nat : ∀ n, n ≤ 128 → mhi n = (mhiN n : Int) := by
  have h : ((List.range 129).all fun n => mhi n == (mhiN n : Int)) = true := by kernel_rfl
  intro n hn
  have := List.all_eq_true.mp h n (List.mem_range.mpr (by omega))
  simpa using this
theorem mlo_nat : ∀ n, n ≤ 128 → mlo n = (mloN n : Int) := by
  have h : ((List.range 129).all fun n => mlo n == (mloN n : Int)) = true := by kernel_rfl
  intro n hn
  have := List.all_eq_true.mp h n (List.mem_range.mpr (by omega))
  simpa using this
theorem and64 (a b : Nat) (ha : a < 18446744073709551616) (hb : b < 18446744073709551616) : bits .and .u64 (a : Int) (b : Int) = ((a &&& b : Nat) : Int) :=
  (bits_nat .u64 64 (by decide) (fun n h0 h1 => by simp [IntKind.wrap, IntKind.bits, IntKind.signed]; omega) a b (by omega) (by omega)).1
theorem or64 (a b : Nat) (ha : a < 18446744073709551616) (hb : b < 18446744073709551616) : bits .or .u64 (a : Int) (b : Int) = ((a ||| b : Nat) : Int) :=
  (bits_nat .u64 64 (by decide) (fun n h0 h1 => by simp [IntKind.wrap, IntKind.bits, IntKind.signed]; omega) a b (by omega) (by omega)).2
theorem and8 (a b : Nat) (ha : a < 256) (hb : b < 256) : bits .and .u8 (a : Int) (b : Int) = ((a &&& b : Nat) : Int) :=
  (bits_nat .u8 8 (by decide) (fun n h0 h1 => by simp [IntKind.wrap, IntKind.bits, IntKind.signed]; omega) a b (by omega) (by omega)).1

theorem join64_nat (a : Nat → Nat) : join64 (a 0) (a 1) (a 2) (a 3) (a 4) (a 5) (a 6) (a 7) = ((joinN a : Nat) : Int) := by
  unfold join64 joinN
  omega

theorem low4_nat (a : Nat → Nat) (h : ∀ i, a i < 256) : low4 (fun i => (a i : Int)) = ((joinN fun i => if i < 2 then 0 else if i < 4 then 255 else a (i - 4) : Nat) : Int) := by
  have h0 := h 0; have h1 := h 1; have h2 := h 2; have h3 := h 3
  unfold low4
  rw [show (281470681743360 : Int) = ((281470681743360 : Nat) : Int) from rfl, show (a 0 : Int) * 16777216 = ((a 0 * 16777216 : Nat) : Int) by omega, show (a 1 : Int) * 65536 = ((a 1 * 65536 : Nat) : Int) by omega, show (a 2 : Int) * 256 = ((a 2 * 256 : Nat) : Int) by omega]
  have e1 : 281470681743360 ||| a 0 * 16777216 = 281470681743360 + a 0 * 16777216 := by
    have := Nat.shiftLeft_add_eq_or_of_lt (b := a 0 * 16777216) (i := 32) (by omega) 65535
    rw [Nat.shiftLeft_eq] at this
    exact this.symm
  rw [or64 _ _ (by omega) (by omega), e1]
  have e2 : (281470681743360 + a 0 * 16777216) ||| a 1 * 65536 = 281470681743360 + a 0 * 16777216 + a 1 * 65536 := by
    have := Nat.shiftLeft_add_eq_or_of_lt (b := a 1 * 65536) (i := 24) (by omega) (16776960 + a 0)
    rw [Nat.shiftLeft_eq] at this
    rw [show 281470681743360 + a 0 * 16777216 = (16776960 + a 0) * 2 ^ 24 by omega]
    exact this.symm
  rw [or64 _ _ (by omega) (by omega), e2]
  have e3 : (281470681743360 + a 0 * 16777216 + a 1 * 65536) ||| a 2 * 256 = 281470681743360 + a 0 * 16777216 + a 1 * 65536 + a 2 * 256 := by
    have := Nat.shiftLeft_add_eq_or_of_lt (b := a 2 * 256) (i := 16) (by omega) (4294901760 + a 0 * 256 + a 1)
    rw [Nat.shiftLeft_eq] at this
    rw [show 281470681743360 + a 0 * 16777216 + a 1 * 65536 = (4294901760 + a 0 * 256 + a 1) * 2 ^ 16 by omega]
    exact this.symm
  rw [or64 _ _ (by omega) (by omega), e3]
  have e4 : (281470681743360 + a 0 * 16777216 + a 1 * 65536 + a 2 * 256) ||| a 3 = 281470681743360 + a 0 * 16777216 + a 1 * 65536 + a 2 * 256 + a 3 := by
    have := Nat.shiftLeft_add_eq_or_of_lt (b := a 3) (i := 8) (by omega) (1099494850560 + a 0 * 65536 + a 1 * 256 + a 2)
    rw [Nat.shiftLeft_eq] at this
    rw [show 281470681743360 + a 0 * 16777216 + a 1 * 65536 + a 2 * 256 = (1099494850560 + a 0 * 65536 + a 1 * 256 + a 2) * 2 ^ 8 by omega]
    exact this.symm
  rw [or64 _ _ (by omega) (by omega), e4]
  simp [joinN]

theorem bytes16_nat (A B : Nat) (hA : A < 18446744073709551616) (hB : B < 18446744073709551616) :
    bytes16 (A : Int) (B : Int) = .agg ((List.range 16).map fun j => Value.int .u8 ((if j < 8 then A / 2 ^ (8 * (7 - j)) % 2 ^ 8 else B / 2 ^ (8 * (7 - (j - 8))) % 2 ^ 8 : Nat) : Int)).toArray := by
  unfold bytes16
  refine congrArg Value.agg (congrArg List.toArray ?_)
  rw [show List.range 16 = [0, 1, 2, 3, 4, 5, 6, 7, 8, 9, 10, 11, 12, 13, 14, 15] from rfl]
  simp only [List.map_cons, List.map_nil, List.cons.injEq, Value.int.injEq, true_and, and_true]
  refine ⟨?_, ?_, ?_, ?_, ?_, ?_, ?_, ?_, ?_, ?_, ?_, ?_, ?_, ?_, ?_, ?_⟩ <;> simp only [Nat.reduceLT, if_true, if_false, Nat.reduceSub, Nat.reduceMul, Nat.reducePow] <;> omega

theorem padded_at (f : Nat → Int) (kk j : Nat) : padded ((List.range kk).map f) j = if j < kk then f j else 0 := by
  unfold padded
  by_cases h : j < kk
  · simp [List.getD, h]
  · simp [List.getD, h]
theorem goMask_nat {i m : Nat} (h : i * 8 < m) : goMask i m = (mb i m : Int) := by
  unfold goMask mb
  by_cases h8 : m - i * 8 < 8
  · rw [if_pos h8, if_neg (by omega), if_neg (by omega)]
    obtain ⟨r, hr⟩ : ∃ r, r = m - i * 8 := ⟨_, rfl⟩
    have e : 8 * i + 8 - m = 8 - r := by omega
    rw [e, ← hr]
    have hc : r = 1 ∨ r = 2 ∨ r = 3 ∨ r = 4 ∨ r = 5 ∨ r = 6 ∨ r = 7 := by omega
    rcases hc with rfl | rfl | rfl | rfl | rfl | rfl | rfl <;> rfl
  · rw [if_neg h8, if_pos (by omega)]
    rfl

theorem mhiN_lt (n : Nat) : mhiN n < 18446744073709551616 := joinN_lt _ (fun j => mb_lt j n)
theorem mloN_lt (n : Nat) : mloN n < 18446744073709551616 := joinN_lt _ (fun j => mb_lt (8 + j) n)

theorem mask_law6 (f : Nat → Int) (hf : ∀ i, 0 ≤ f i ∧ f i ≤ 255) (m kk : Nat) (hm : m ≤ 128) (hk : kk = (m + 7) / 8) :
    bytes16 (pHi 2 (padded ((List.range kk).map f)) m) (pLo 2 (padded ((List.range kk).map f)) m) = .agg (maskRow f 0 m kk).toArray := by
  obtain ⟨a, ha⟩ : ∃ a : Nat → Nat, a = fun j => if j < kk then (f j).toNat else 0 := ⟨_, rfl⟩
  have hpa : padded ((List.range kk).map f) = fun j => (a j : Int) := by
    funext j
    rw [padded_at, ha]
    by_cases h : j < kk
    · simp only [h, if_true]; have := hf j; omega
    · simp [h]
  have hal : ∀ j, a j < 256 := by
    intro j
    rw [ha]
    by_cases h : j < kk
    · simp only [h, if_true]; have := hf j; omega
    · simp [h]
  have e1 : pHi 2 (padded ((List.range kk).map f)) m = ((joinN a &&& mhiN m : Nat) : Int) := by
    rw [hpa]
    rw [pHi, if_neg (by decide), show hi16 (fun j => (a j : Int)) = ((joinN a : Nat) : Int) from join64_nat a, mhi_nat m hm, and64 _ _ (joinN_lt _ hal) (mhiN_lt m)]
  have e2 : pLo 2 (padded ((List.range kk).map f)) m = ((joinN (fun j => a (8 + j)) &&& mloN m : Nat) : Int) := by
    rw [hpa]
    rw [pLo, if_neg (by decide), show lo16 (fun j => (a j : Int)) = ((joinN (fun j => a (8 + j)) : Nat) : Int) from join64_nat (fun j => a (8 + j)), mlo_nat m hm, and64 _ _ (joinN_lt _ (fun j => hal (8 + j))) (mloN_lt m)]
  have b1 : joinN a &&& mhiN m < 18446744073709551616 := Nat.lt_of_le_of_lt Nat.and_le_left (joinN_lt _ hal)
  have b2 : joinN (fun j => a (8 + j)) &&& mloN m < 18446744073709551616 := Nat.lt_of_le_of_lt Nat.and_le_left (joinN_lt _ (fun j => hal (8 + j)))
  rw [e1, e2, bytes16_nat _ _ b1 b2]
  unfold maskRow
  refine congrArg Value.agg (congrArg List.toArray (List.map_congr_left fun j hj => ?_))
  have hj16 := List.mem_range.mp hj
  have key : (if j < 8 then (joinN a &&& mhiN m) / 2 ^ (8 * (7 - j)) % 2 ^ 8 else (joinN (fun j => a (8 + j)) &&& mloN m) / 2 ^ (8 * (7 - (j - 8))) % 2 ^ 8) = a j &&& mb j m := by
    by_cases h : j < 8
    · rw [if_pos h]
      exact and_join_byte a (fun j => mb j m) hal (fun j => mb_lt j m) j h
    · rw [if_neg h]
      have := and_join_byte (fun j => a (8 + j)) (fun j => mb (8 + j) m) (fun j => hal (8 + j)) (fun j => mb_lt (8 + j) m) (j - 8) (by omega)
      rw [show 8 + (j - 8) = j by omega] at this
      exact this
  rw [key]
  congr 1
  unfold maskAt
  simp only [Nat.zero_le, Nat.sub_zero, true_and]
  rw [ha]
  by_cases h : j < kk
  · have hfj := hf j
    simp only [h, if_true]
    obtain ⟨y, hy⟩ : ∃ y : Nat, f j = y := ⟨(f j).toNat, by omega⟩
    rw [goMask_nat (by omega), hy, and8 _ _ (by omega) (mb_lt j m)]
    simp
  · simp [h]

theorem mb_shift (i m : Nat) : mb (12 + i) (m + 96) = mb i m := by
  unfold mb
  have e1 : (8 * (12 + i) + 8 ≤ m + 96) ↔ (8 * i + 8 ≤ m) := by omega
  have e2 : (m + 96 ≤ 8 * (12 + i)) ↔ (m ≤ 8 * i) := by omega
  have e3 : 8 * (12 + i) + 8 - (m + 96) = 8 * i + 8 - m := by omega
  simp only [e1, e2, e3]

theorem mask_law4 (f : Nat → Int) (hf : ∀ i, 0 ≤ f i ∧ f i ≤ 255) (m kk : Nat) (hm : m ≤ 32) (hk : kk = (m + 7) / 8) :
    bytes16 (pHi 1 (padded ((List.range kk).map f)) m) (pLo 1 (padded ((List.range kk).map f)) m) = .agg (maskRow f 12 m kk).toArray := by
  obtain ⟨a, ha⟩ : ∃ a : Nat → Nat, a = fun j => if j < kk then (f j).toNat else 0 := ⟨_, rfl⟩
  have hpa : padded ((List.range kk).map f) = fun j => (a j : Int) := by
    funext j
    rw [padded_at, ha]
    by_cases h : j < kk
    · simp only [h, if_true]; have := hf j; omega
    · simp [h]
  have hal : ∀ j, a j < 256 := by
    intro j
    rw [ha]
    by_cases h : j < kk
    · simp only [h, if_true]; have := hf j; omega
    · simp [h]
  obtain ⟨b, hb⟩ : ∃ b : Nat → Nat, b = fun i => if i < 2 then 0 else if i < 4 then 255 else a (i - 4) := ⟨_, rfl⟩
  have hbl : ∀ j, b j < 256 := by
    intro j
    rw [hb]
    show (if j < 2 then 0 else if j < 4 then 255 else a (j - 4)) < 256
    split
    · omega
    · split
      · omega
      · exact hal _
  have e1 : pHi 1 (padded ((List.range kk).map f)) m = ((0 : Nat) : Int) := by
    rw [pHi, if_pos rfl, mhi_nat _ (by omega)]
    have h0 := and64 0 (mhiN (m + 96)) (by omega) (mhiN_lt _)
    rw [Nat.zero_and] at h0
    exact h0
  have e2 : pLo 1 (padded ((List.range kk).map f)) m = ((joinN b &&& mloN (m + 96) : Nat) : Int) := by
    rw [hpa]
    rw [pLo, if_pos rfl, low4_nat a hal, mlo_nat _ (by omega), ← hb, and64 _ _ (joinN_lt _ hbl) (mloN_lt _)]
  have b2 : joinN b &&& mloN (m + 96) < 18446744073709551616 := Nat.lt_of_le_of_lt Nat.and_le_left (joinN_lt _ hbl)
  rw [e1, e2, bytes16_nat _ _ (by omega) b2]
  unfold maskRow
  refine congrArg Value.agg (congrArg List.toArray (List.map_congr_left fun j hj => ?_))
  have hj16 := List.mem_range.mp hj
  by_cases h8 : j < 8
  · rw [if_pos h8]
    unfold maskAt
    rw [if_neg (by omega), if_neg (by omega)]
    simp
  · rw [if_neg h8]
    have key := and_join_byte b (fun i => mb (8 + i) (m + 96)) hbl (fun i => mb_lt _ _) (j - 8) (by omega)
    rw [show (joinN b &&& mloN (m + 96)) / 2 ^ (8 * (7 - (j - 8))) % 2 ^ 8 = b (j - 8) &&& mb (8 + (j - 8)) (m + 96) from key, show 8 + (j - 8) = j by omega]
    unfold maskAt
    by_cases h12 : 12 ≤ j
    · obtain ⟨i, rfl⟩ : ∃ i, j = 12 + i := ⟨j - 12, by omega⟩
      rw [mb_shift, show 12 + i - 8 = 4 + i by omega, show 12 + i - 12 = i by omega]
      have hbi : b (4 + i) = a i := by rw [hb]; show (if 4 + i < 2 then 0 else if 4 + i < 4 then 255 else a (4 + i - 4)) = a i; rw [if_neg (by omega), if_neg (by omega), show 4 + i - 4 = i by omega]
      rw [hbi, ha]
      by_cases h : i < kk
      · have hfi := hf i
        rw [if_pos (by omega)]
        simp only [h, if_true]
        obtain ⟨y, hy⟩ : ∃ y : Nat, f i = y := ⟨(f i).toNat, by omega⟩
        rw [goMask_nat (by omega), hy, and8 _ _ (by omega) (mb_lt i m)]
        simp
      · rw [if_neg (by omega), if_neg (by omega)]
        simp [h]
    · rw [if_neg (by omega)]
      by_cases h10 : 10 ≤ j
      · rw [if_pos (by omega)]
        have hbi : b (j - 8) = 255 := by rw [hb]; show (if j - 8 < 2 then 0 else if j - 8 < 4 then 255 else a (j - 8 - 4)) = 255; rw [if_neg (by omega), if_pos (by omega)]
        have hmb : mb j (m + 96) = 255 := by unfold mb; rw [if_pos (by omega)]
        rw [hbi, hmb]
        rfl
      · rw [if_neg (by omega)]
        have hbi : b (j - 8) = 0 := by rw [hb]; show (if j - 8 < 2 then 0 else if j - 8 < 4 then 255 else a (j - 8 - 4)) = 0; rw [if_pos (by omega)]
        rw [hbi]
        simp
end Go.Proofs.YbulkaigaFmt
