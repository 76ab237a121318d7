namespace Go.Proofs.Ybulkaiey

/-- The table's entry. -/
def t3 (T : Nat → Int) (a k g : Nat) : Int := T (a * 15 + k * 3 + g)
/-- The first g hosts' part of a row. -/
def rowTo (T : Nat → Int) (a k : Nat) : Nat → List (Nat × Int)
  | 0 => []
  | g + 1 => rowTo T a k g ++ if g ≠ a ∧ t3 T a k g ≠ 0 then [(g, t3 T a k g)] else []
/-- The row of the k-th event of host a. -/
def rowL (T : Nat → Int) (a k : Nat) : List (Nat × Int) := rowTo T a k 3
/-- All rows of host a up to the k-th event's. -/
def bufL (T : Nat → Int) (a : Nat) : Nat → List (Nat × Int)
  | 0 => []
  | k + 1 => bufL T a k ++ rowL T a (k + 1)
/-- The row as it is read: none beyond the last event. -/
def rowC (T : Nat → Int) (c : Nat → Nat) (a k : Nat) : List (Nat × Int) := if k ≤ c a then rowL T a k else []
/-- The clock's entry. -/
def clkP (T : Nat → Int) (c : Nat → Nat) (a k g : Nat) : Int := if k < 1 ∨ c a < k then 0 else if g = a then (k : Int) else t3 T a k g

theorem rowTo_len (T : Nat → Int) (a k : Nat) : ∀ g, (rowTo T a k g).length ≤ g
  | 0 => Nat.le_refl _
  | g + 1 => by
    have := rowTo_len T a k g
    unfold rowTo
    split <;> simp <;> omega
theorem rowL_len (T : Nat → Int) (a k : Nat) (ha : a < 3) : (rowL T a k).length ≤ 2 := by
  have h3 : a = 0 ∨ a = 1 ∨ a = 2 := by omega
  rcases h3 with rfl | rfl | rfl <;> unfold rowL <;> simp only [rowTo] <;> repeat (first | omega | (split <;> simp))
theorem bufL_len (T : Nat → Int) (a : Nat) (ha : a < 3) : ∀ k, (bufL T a k).length ≤ 2 * k
  | 0 => Nat.le_refl _
  | k + 1 => by
    have := bufL_len T a ha k
    have := rowL_len T a (k + 1) ha
    unfold bufL
    simp
    omega

/-- Does the event that the k-th event of host h names at host x know v at g? -/
def hitB (T : Nat → Int) (c : Nat → Nat) (h k g : Nat) (v : Int) (x : Nat) : Bool := decide (t3 T h k x ≠ 0 ∧ clkP T c x (t3 T h k x).toNat g = v)
/-- The place that both functions hand back. -/
def Res (T : Nat → Int) (c : Nat → Nat) (h k g : Nat) (v : Int) (A B : Int) : Prop :=
  (1 < k ∧ clkP T c h (k - 1) g = v ∧ A = (h : Int) ∧ B = (k : Int) - 1) ∨
  (¬ (1 < k ∧ clkP T c h (k - 1) g = v) ∧
    ((∃ x, x < 3 ∧ x ≠ h ∧ hitB T c h k g v x = true ∧ (∀ y, y < x → y ≠ h → hitB T c h k g v y = false) ∧ A = (x : Int) ∧ B = t3 T h k x) ∨
     ((∀ y, y < 3 → y ≠ h → hitB T c h k g v y = false) ∧ A = 0 ∧ B = 0)))
theorem Res.unique {T : Nat → Int} {c : Nat → Nat} {h k g : Nat} {v A B A' B' : Int} (r : Res T c h k g v A B) (r' : Res T c h k g v A' B') : A = A' ∧ B = B' := by
  rcases r with ⟨a1, a2, rfl, rfl⟩ | ⟨n1, r⟩
  · rcases r' with ⟨_, _, rfl, rfl⟩ | ⟨n2, _⟩
    · exact ⟨rfl, rfl⟩
    · exact absurd ⟨a1, a2⟩ n2
  · rcases r' with ⟨b1, b2, _, _⟩ | ⟨_, r'⟩
    · exact absurd ⟨b1, b2⟩ n1
    · rcases r with ⟨x, hx, hxh, hh, hf, rfl, rfl⟩ | ⟨hn, rfl, rfl⟩
      · rcases r' with ⟨y, hy, hyh, hh', hf', rfl, rfl⟩ | ⟨hn', _, _⟩
        · rcases Nat.lt_trichotomy x y with h1 | h1 | h1
          · rw [hf' x h1 hxh] at hh; cases hh
          · subst h1; exact ⟨rfl, rfl⟩
          · rw [hf y h1 hyh] at hh'; cases hh'
        · rw [hn' x hx hxh] at hh; cases hh
      · rcases r' with ⟨y, hy, hyh, hh', _, _, _⟩ | ⟨_, rfl, rfl⟩
        · rw [hn y hy hyh] at hh'; cases hh'
        · exact ⟨rfl, rfl⟩
end Go.Proofs.Ybulkaiey
