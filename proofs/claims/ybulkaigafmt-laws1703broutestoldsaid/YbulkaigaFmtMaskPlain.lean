import Derived.Laws.BitsLemmas
namespace Go.Proofs.YbulkaigaFmt
open Go

/-- Byte j of a mask of n leading ones. -/
def mb (j n : Nat) : Nat := if 8 * j + 8 ≤ n then 255 else if n ≤ 8 * j then 0 else 256 - 2 ^ (8 * j + 8 - n)
/-- Eight bytes joined, the greatest first. -/
def joinN (b : Nat → Nat) : Nat := b 0 * 72057594037927936 + b 1 * 281474976710656 + b 2 * 1099511627776 + b 3 * 4294967296 + b 4 * 16777216 + b 5 * 65536 + b 6 * 256 + b 7
def mhiN (n : Nat) : Nat := joinN fun j => mb j n
def mloN (n : Nat) : Nat := joinN fun j => mb (8 + j) n

theorem mb_lt (j n : Nat) : mb j n < 256 := by
  unfold mb
  split
  · omega
  · split
    · omega
    · have : 0 < 2 ^ (8 * j + 8 - n) := Nat.pow_pos (by omega)
      omega

theorem and_byte (a b k : Nat) : (a &&& b) / 2 ^ k % 2 ^ 8 = (a / 2 ^ k % 2 ^ 8) &&& (b / 2 ^ k % 2 ^ 8) := by
  apply Nat.eq_of_testBit_eq
  intro i
  simp only [Nat.testBit_and, Nat.testBit_mod_two_pow, ← Nat.shiftRight_eq_div_pow, Nat.testBit_shiftRight]
  by_cases h : i < 8
  · simp [h]
  · simp [h]

theorem joinN_lt (b : Nat → Nat) (h : ∀ j, b j < 256) : joinN b < 18446744073709551616 := by
  have h0 := h 0; have h1 := h 1; have h2 := h 2; have h3 := h 3; have h4 := h 4; have h5 := h 5; have h6 := h 6; have h7 := h 7
  unfold joinN
  omega

theorem joinN_byte (b : Nat → Nat) (h : ∀ j, b j < 256) (j : Nat) (hj : j < 8) : joinN b / 2 ^ (8 * (7 - j)) % 2 ^ 8 = b j := by
  have h0 := h 0; have h1 := h 1; have h2 := h 2; have h3 := h 3; have h4 := h 4; have h5 := h 5; have h6 := h 6; have h7 := h 7
  have hc : j = 0 ∨ j = 1 ∨ j = 2 ∨ j = 3 ∨ j = 4 ∨ j = 5 ∨ j = 6 ∨ j = 7 := by omega
  unfold joinN
  rcases hc with rfl | rfl | rfl | rfl | rfl | rfl | rfl | rfl <;> simp only [Nat.reduceMul, Nat.reduceSub, Nat.reducePow] <;> omega

theorem and_join_byte (a b : Nat → Nat) (ha : ∀ j, a j < 256) (hb : ∀ j, b j < 256) (j : Nat) (hj : j < 8) : (joinN a &&& joinN b) / 2 ^ (8 * (7 - j)) % 2 ^ 8 = a j &&& b j := by
  rw [and_byte, joinN_byte a ha j hj, joinN_byte b hb j hj]
end Go.Proofs.YbulkaigaFmt
