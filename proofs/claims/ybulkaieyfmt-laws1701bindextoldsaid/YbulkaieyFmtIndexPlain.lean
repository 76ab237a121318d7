namespace Go.Proofs.YbulkaieyFmt

/-- Does the name at place a stand before it already? -/
def seenB (f : Nat → ByteArray) (a : Nat) : Bool := (List.range a).any fun b => decide (f b = f a)
/-- How many different names stand among the first k. -/
def dist (f : Nat → ByteArray) : Nat → Nat
  | 0 => 0
  | k + 1 => dist f k + if seenB f k then 0 else 1

theorem seenB_true {f : Nat → ByteArray} {a b : Nat} (hb : b < a) (h : f b = f a) : seenB f a = true := by
  unfold seenB
  rw [List.any_eq_true]
  exact ⟨b, List.mem_range.2 hb, by simp [h]⟩
theorem seenB_false {f : Nat → ByteArray} {a : Nat} (h : ∀ b, b < a → f b ≠ f a) : seenB f a = false := by
  unfold seenB
  rw [List.any_eq_false]
  intro x hx
  simpa using h x (List.mem_range.1 hx)
theorem dist_le (f : Nat → ByteArray) : ∀ k, dist f k ≤ k
  | 0 => Nat.le_refl _
  | k + 1 => by
    have := dist_le f k
    unfold dist
    split <;> omega
theorem dist_seen {f : Nat → ByteArray} {a : Nat} (h : seenB f a = true) : dist f (a + 1) = dist f a := by simp [dist, h]
theorem dist_new {f : Nat → ByteArray} {a : Nat} (h : seenB f a = false) : dist f (a + 1) = dist f a + 1 := by simp [dist, h]

/-- What zzs1701bwant hands back. -/
def Wanted (f : Nat → ByteArray) (n : Nat) (q : ByteArray) (r : Int) : Prop :=
  (∃ j, j < n ∧ f j = q ∧ (∀ i, i < j → f i ≠ q) ∧ r = (dist f j : Int)) ∨ ((∀ i, i < n → f i ≠ q) ∧ r = -1)
end Go.Proofs.YbulkaieyFmt
