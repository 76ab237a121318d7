import Derived.Test.YbulkaieySourceReads
namespace Go.Proofs.Ybulkaiey
open Go.RowKit

set_option maxHeartbeats 1000000 in
theorem row_same (w : World) (T : Nat → Int) (c : Nat → Nat) (cl a rb cb eb : Nat) (pb : Option Addr) (cap k e : Nat) (hm : HostMem w T c cl a rb cb eb pb cap) (hc4 : c a ≤ 4) (hk : k + 1 ≤ c a) (he8 : e ≤ 8)
    (h0 : (bufL T a k).length = e) (h1 : (bufL T a (k + 1)).length = e) :
    Calls Yba.prog 11 #[.pointer (some ⟨cl, a * 4, none⟩), .int .i64 ((k + 1 : Nat) : Int)] w fun r w' => r = .returned (.slice none 0 0) ∧ ∃ n, w' = w.drewN n := by
  have h2 := hm.rows
  have h3 := hm.ended
  have h4 := hm.ends
  have h5 := hm.endAt k (by omega)
  have h6 := hm.endAt (k + 1) hk
  rw [h0] at h5
  rw [h1] at h6
  have ha := and_share e he8
  have hk' : k < c a + 1 := by omega
  have hk2 : k + 1 < c a + 1 := by omega
  clear hm h0 h1
  go_enter Yba.func11, Yba.ntmps11
  go_wp2_with fail
  go_quiet ((go_at_call 13; go_must (exact Calls.quiet_of_same (end_any rb eb k (c a + 1) e _ hk' he8 h4 h5))))
  go_wp2_with fail
  go_ret
  exact ⟨rfl, _, rfl⟩

set_option maxHeartbeats 1000000 in
theorem row_some (w : World) (T : Nat → Int) (c : Nat → Nat) (cl a rb cb eb bb : Nat) (cap k e0 e1 : Nat) (hm : HostMem w T c cl a rb cb eb (some ⟨bb, 0, none⟩) cap) (hc4 : c a ≤ 4) (hk : k + 1 ≤ c a) (he8 : e1 ≤ 8) (hlt : e0 < e1)
    (h0 : (bufL T a k).length = e0) (h1 : (bufL T a (k + 1)).length = e1) (hle : e1 ≤ (bufL T a (c a)).length) :
    Calls Yba.prog 11 #[.pointer (some ⟨cl, a * 4, none⟩), .int .i64 ((k + 1 : Nat) : Int)] w fun r w' => r = .returned (.slice (some ⟨bb, e0 * 2, none⟩) (e1 - e0) (cap - e0)) ∧ ∃ n, w' = w.drewN n := by
  have h2 := hm.rows
  have h3 := hm.ended
  have h4 := hm.ends
  have h5 := hm.endAt k (by omega)
  have h6 := hm.endAt (k + 1) hk
  have h7 := hm.shift
  have h8 := hm.chunks
  have h9 := hm.buf
  have h10 := hm.bufcap
  rw [h0] at h5
  rw [h1] at h6
  have ha := and_share e1 he8
  have hk' : k < c a + 1 := by omega
  have hk2 : k + 1 < c a + 1 := by omega
  clear hm h0 h1
  generalize (bufL T a (c a)).length = N at *
  have hsh : ((e1 : Int) - 1) / 16384 = 0 := by omega
  go_enter Yba.func11, Yba.ntmps11
  go_wp2_with fail
  go_quiet ((go_at_call 13; go_must (exact Calls.quiet_of_same (end_any rb eb k (c a + 1) e0 _ hk' (by omega) h4 h5))))
  go_wp2_with fail
  go_ret
  exact ⟨rfl, _, rfl⟩

/-- A row of entries as it lies in memory from p on. -/
def RowMem (w : World) (R : List (Nat × Int)) (p : Option Addr) : Prop :=
  ∀ i x, R[i]? = some x → ∃ bb o, p = some ⟨bb, o, none⟩ ∧ w.cell? ⟨bb, o + i * 2, none⟩ = some (.int .i32 (x.1 : Int)) ∧ w.cell? ⟨bb, o + i * 2 + 1, none⟩ = some (.int .i32 x.2)

theorem bufL_mono (T : Nat → Int) (a : Nat) {k : Nat} : ∀ {n : Nat}, k ≤ n → ∀ {i : Nat} {x : Nat × Int}, (bufL T a k)[i]? = some x → (bufL T a n)[i]? = some x := by
  intro n
  induction n with
  | zero => intro h i x hx; obtain rfl : k = 0 := by omega
            exact hx
  | succ n ih =>
    intro h i x hx
    by_cases e : k = n + 1
    · subst e; exact hx
    · have := ih (by omega) hx
      unfold bufL
      rw [List.getElem?_append_left (List.getElem?_eq_some_iff.1 this).1]
      exact this
theorem bufL_lenMono (T : Nat → Int) (a : Nat) {k : Nat} : ∀ {n : Nat}, k ≤ n → (bufL T a k).length ≤ (bufL T a n).length := by
  intro n
  induction n with
  | zero => intro h; obtain rfl : k = 0 := by omega
            exact Nat.le_refl _
  | succ n ih =>
    intro h
    by_cases e : k = n + 1
    · subst e; exact Nat.le_refl _
    · have := ih (by omega)
      have e2 : bufL T a (n + 1) = bufL T a n ++ rowL T a (n + 1) := rfl
      rw [e2, List.length_append]; omega

theorem HostMem.drewN {w : World} {T : Nat → Int} {c : Nat → Nat} {cl a rb cb eb : Nat} {pb : Option Addr} {cap : Nat} (hm : HostMem w T c cl a rb cb eb pb cap) (m : Nat) : HostMem (w.drewN m) T c cl a rb cb eb pb cap :=
  ⟨hm.given, hm.rows, hm.chunks, hm.shift, hm.ends, hm.ended, hm.left, hm.buf, hm.bufcap, hm.endAt, hm.ent⟩
theorem drew_twice {w : World} {m n : Nat} : ∃ k, (w.drewN m).drewN n = w.drewN k := ⟨m + n, by simp [World.drewN]; omega⟩

theorem hrow_fix (w : World) (T : Nat → Int) (c : Nat → Nat) (cl a rb cb eb : Nat) (pb : Option Addr) (cap k : Nat) (hm : HostMem w T c cl a rb cb eb pb cap) (ha : a < 3) (hc4 : c a ≤ 4) (hk1 : 1 ≤ k) :
    ∃ p cap', RowMem w (rowC T c a k) p ∧ ∀ m, Calls Yba.prog 11 #[.pointer (some ⟨cl, a * 4, none⟩), .int .i64 (k : Int)] (w.drewN m) fun r w' => r = .returned (.slice p (rowC T c a k).length cap') ∧ ∃ n, w' = w.drewN n := by
  by_cases hk : k ≤ c a
  · obtain ⟨j, rfl⟩ : ∃ j, k = j + 1 := ⟨k - 1, by omega⟩
    have hR : rowC T c a (j + 1) = rowL T a (j + 1) := by unfold rowC; rw [if_pos hk]
    have hb : bufL T a (j + 1) = bufL T a j ++ rowL T a (j + 1) := rfl
    have hl : (bufL T a (j + 1)).length = (bufL T a j).length + (rowL T a (j + 1)).length := by rw [hb, List.length_append]
    have h8 : (bufL T a (j + 1)).length ≤ 8 := by have := bufL_len T a ha (j + 1); omega
    rw [hR]
    by_cases he : (rowL T a (j + 1)).length = 0
    · have e0 : rowL T a (j + 1) = [] := List.length_eq_zero_iff.1 he
      rw [e0]
      refine ⟨none, 0, fun i x hx => by simp at hx, fun m => ?_⟩
      refine (row_same _ T c cl a rb cb eb pb cap j _ (hm.drewN m) hc4 hk h8 (by omega) rfl).mono ?_
      rintro r w' ⟨rfl, n, rfl⟩
      exact ⟨rfl, drew_twice⟩
    · have hlast : (bufL T a (c a))[(bufL T a j).length]? = some ((rowL T a (j + 1))[0]'(by omega)) := by
        refine bufL_mono T a hk ?_
        rw [hb, List.getElem?_append_right (Nat.le_refl _), Nat.sub_self]
        exact List.getElem?_eq_getElem _
      obtain ⟨bb, rfl, _, _⟩ := hm.ent _ _ hlast
      refine ⟨some ⟨bb, (bufL T a j).length * 2, none⟩, cap - (bufL T a j).length, ?_, fun m => ?_⟩
      · intro i x hx
        have h2 : (bufL T a (c a))[(bufL T a j).length + i]? = some x := by
          refine bufL_mono T a hk ?_
          rw [hb, List.getElem?_append_right (Nat.le_add_right _ _), Nat.add_sub_cancel_left]
          exact hx
        obtain ⟨bb', e', c0, c1⟩ := hm.ent _ _ h2
        cases e'
        refine ⟨bb, _, rfl, ?_, ?_⟩
        · rw [show (bufL T a j).length * 2 + i * 2 = ((bufL T a j).length + i) * 2 from by omega]; exact c0
        · rw [show (bufL T a j).length * 2 + i * 2 + 1 = ((bufL T a j).length + i) * 2 + 1 from by omega]; exact c1
      · refine (row_some _ T c cl a rb cb eb bb cap j _ _ (hm.drewN m) hc4 hk h8 (by omega) rfl rfl (bufL_lenMono T a hk)).mono ?_
        rintro r w' ⟨rfl, n, rfl⟩
        refine ⟨?_, drew_twice⟩
        rw [hl, Nat.add_sub_cancel_left]
  · have hR : rowC T c a k = [] := by unfold rowC; rw [if_neg hk]
    rw [hR]
    refine ⟨none, 0, fun i x hx => by simp at hx, fun m => ?_⟩
    refine (row_far _ T c cl a rb cb eb pb cap k (hm.drewN m) (by omega)).mono ?_
    rintro r w' ⟨rfl, rfl⟩
    exact ⟨rfl, m, rfl⟩

/-- The execution as it lies in memory at xb. -/
structure ExecMem (w : World) (T : Nat → Int) (c : Nat → Nat) (xb hb cl : Nat) : Prop where
  hosts : w.cell? ⟨xb, 0, none⟩ = some (.slice (some ⟨hb, 0, none⟩) 3 3)
  clocks : w.cell? ⟨xb, 2, none⟩ = some (.slice (some ⟨cl, 0, none⟩) 3 3)
  host : ∀ a, a < 3 → ∃ rb cb eb pb cap, HostMem w T c cl a rb cb eb pb cap

set_option maxHeartbeats 1000000 in
theorem erow_walk (w : World) (xb cl a k : Nat) (p : Option Addr) (len cap' : Nat) (ha : a < 3) (h1 : w.cell? ⟨xb, 2, none⟩ = some (.slice (some ⟨cl, 0, none⟩) 3 3))
    (h : ∀ m, Calls Yba.prog 11 #[.pointer (some ⟨cl, a * 4, none⟩), .int .i64 (k : Int)] (w.drewN m) fun r w' => r = .returned (.slice p len cap') ∧ ∃ n, w' = w.drewN n) (m : Nat) :
    Calls Yba.prog 7 #[.pointer (some ⟨xb, 0, none⟩), .int .i64 (a : Int), .int .i64 (k : Int)] (w.drewN m) fun r w' => r = .returned (.slice p len cap') ∧ ∃ n, w' = w.drewN n := by
  have Hc : Hid (∀ m, Calls Yba.prog 11 #[.pointer (some ⟨cl, a * 4, none⟩), .int .i64 (k : Int)] (w.drewN m) fun r w' => r = .returned (.slice p len cap') ∧ ∃ n, w' = w.drewN n) := h
  clear h
  go_enter Yba.func7, Yba.ntmps7
  go_wp2_with fail
  refine (Hc.out m).mono ?_
  rintro r w' ⟨rfl, n, rfl⟩
  go_wp2_with fail
  go_ret
  exact ⟨rfl, n, rfl⟩

theorem erow_fix (w : World) (T : Nat → Int) (c : Nat → Nat) (xb hb cl a k : Nat) (hx : ExecMem w T c xb hb cl) (ha : a < 3) (hc4 : c a ≤ 4) (hk1 : 1 ≤ k) :
    ∃ p cap', RowMem w (rowC T c a k) p ∧ ∀ m, Calls Yba.prog 7 #[.pointer (some ⟨xb, 0, none⟩), .int .i64 (a : Int), .int .i64 (k : Int)] (w.drewN m) fun r w' => r = .returned (.slice p (rowC T c a k).length cap') ∧ ∃ n, w' = w.drewN n := by
  obtain ⟨rb, cb, eb, pb, cap, hm⟩ := hx.host a ha
  obtain ⟨p, cap', hR, hC⟩ := hrow_fix w T c cl a rb cb eb pb cap k hm ha hc4 hk1
  exact ⟨p, cap', hR, fun m => erow_walk w xb cl a k p _ cap' ha hx.clocks hC m⟩

set_option maxHeartbeats 1000000 in
theorem own_any (w : World) (T : Nat → Int) (c : Nat → Nat) (xb hb cl a k : Nat) (hx : ExecMem w T c xb hb cl) (ha : a < 3) :
    Calls Yba.prog 9 #[.pointer (some ⟨xb, 0, none⟩), .int .i64 (a : Int), .int .i64 (k : Int)] w fun r w' => r = .returned (.int .i64 (if k ≤ c a then (k : Int) else 0)) ∧ ∃ n, w' = w.drewN n := by
  obtain ⟨rb, cb, eb, pb, cap, hm⟩ := hx.host a ha
  have h1 := hx.clocks
  clear hx
  by_cases hk : k ≤ c a
  · rw [if_pos hk]
    go_enter Yba.func9, Yba.ntmps9
    go_wp2_with fail
    refine (holds_yes w T c cl a rb cb eb pb cap k hm hk).mono ?_
    rintro r w' ⟨rfl, n, rfl⟩
    go_wp2_with fail
    go_ret
    exact ⟨rfl, n, rfl⟩
  · rw [if_neg hk]
    go_enter Yba.func9, Yba.ntmps9
    go_wp2_with fail
    refine (holds_no w T c cl a rb cb eb pb cap k hm (by omega)).mono ?_
    rintro r w' ⟨rfl, n, rfl⟩
    go_wp2_with fail
    go_ret
    exact ⟨rfl, n, rfl⟩
end Go.Proofs.Ybulkaiey
