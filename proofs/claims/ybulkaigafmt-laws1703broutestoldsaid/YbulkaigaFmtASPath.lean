import Derived.Test.YbulkaigaFmtPath
namespace Go.Proofs.YbulkaigaFmt
open Go.RowKit

/-- Bytes that lie in a block from an offset on. -/
def Lies (w : World) (g o : Nat) (l : List Int) : Prop := ∀ j z, l[j]? = some z → w.cell? ⟨g, o + j, none⟩ = some (.int .u8 z)

theorem Lies.block {w w' : World} {g o : Nat} {l : List Int} (h : Lies w g o l) (e : w'.heap[g]? = w.heap[g]?) : Lies w' g o l :=
  fun j z hj => (World.cell?_of_block (a := ⟨g, o + j, none⟩) e).trans (h j z hj)

theorem Lies.right {w : World} {g o : Nat} {a b : List Int} (h : Lies w g o (a ++ b)) : Lies w g (o + a.length) b := by
  intro j z hj
  rw [Nat.add_assoc]
  exact h (a.length + j) z (by rw [List.getElem?_append_right (by omega)]; simpa using hj)

theorem Lies.left {w : World} {g o : Nat} {a b : List Int} (h : Lies w g o (a ++ b)) : Lies w g o a := by
  intro j z hj
  refine h j z ?_
  rw [List.getElem?_append_left (by rcases List.getElem?_eq_some_iff.mp hj with ⟨h, _⟩; exact h)]
  exact hj

theorem be32_length (x : Int) : (be32 x).length = 4 := rfl
theorem flat32_length (l : List Int) : (l.flatMap be32).length = 4 * l.length := by
  induction l with
  | nil => rfl
  | cons a t ih => simp only [List.flatMap_cons, List.length_append, List.length_cons, ih, be32_length]; omega

theorem flat32_at (l : List Int) (i j : Nat) (x : Int) (hx : l[i]? = some x) (hj : j < 4) : (l.flatMap be32)[4 * i + j]? = (be32 x)[j]? := by
  induction l generalizing i with
  | nil => simp at hx
  | cons a t ih =>
    rw [List.flatMap_cons]
    cases i with
    | zero =>
      simp only [List.getElem?_cons_zero, Option.some.injEq] at hx
      subst hx
      rw [List.getElem?_append_left (by rw [be32_length]; omega)]
      simp
    | succ i =>
      rw [List.getElem?_append_right (by rw [be32_length]; omega), be32_length]
      have := ih i (by simpa using hx)
      rw [← this]
      congr 1
      omega

theorem Lies.at32 {w : World} {g o : Nat} {l : List Int} (h : Lies w g o (l.flatMap be32)) {i : Nat} {x : Int} (hx : l[i]? = some x) :
    w.cell? ⟨g, o + 4 * i, none⟩ = some (.int .u8 (x / 16777216)) ∧ w.cell? ⟨g, o + 4 * i + 1, none⟩ = some (.int .u8 (x / 65536 % 256)) ∧ w.cell? ⟨g, o + 4 * i + 2, none⟩ = some (.int .u8 (x / 256 % 256)) ∧ w.cell? ⟨g, o + 4 * i + 3, none⟩ = some (.int .u8 (x % 256)) := by
  refine ⟨?_, ?_, ?_, ?_⟩
  · exact h (4 * i + 0) _ ((flat32_at l i 0 x hx (by omega)).trans rfl)
  · have := h (4 * i + 1) _ ((flat32_at l i 1 x hx (by omega)).trans rfl); rwa [← Nat.add_assoc] at this
  · have := h (4 * i + 2) _ ((flat32_at l i 2 x hx (by omega)).trans rfl); rwa [← Nat.add_assoc] at this
  · have := h (4 * i + 3) _ ((flat32_at l i 3 x hx (by omega)).trans rfl); rwa [← Nat.add_assoc] at this

/-- The builder's state while a segment is being read. -/
def St.read (s : St) (A' Q' : Value) (l : List Int) : St :=
  { s with A := A', nA := s.nA + l.length, xA := s.xA ++ l.map (Value.int .u32), Q := Q', nQ := 1, xQ := [.int .u8 2, .int .i64 s.nA] }

/-- The builder's state behind a path of one segment. -/
def St.path (s : St) (l : List Int) (gA cA gS cS : Nat) (Q' : Value) : St :=
  { A := .slice (some ⟨gA, 0, none⟩) (s.nA + l.length) cA, S := .slice (some ⟨gS, 0, none⟩) (s.nS + 1) cS, Q := Q', nA := s.nA + l.length, nS := s.nS + 1, nQ := 0,
    xA := s.xA ++ l.map (Value.int .u32), xS := s.xS ++ [.int .u8 2, .slice (some ⟨gA, s.nA, none⟩) l.length l.length], xQ := [] }

theorem own_some {w : World} {base e size n : Nat} {v : Value} {xs : List Value} (h : w.ownsRow base e size v n xs) (hn : 0 < n) : ∃ g c, v = .slice (some ⟨g, 0, none⟩) n c ∧ n ≤ c := by
  rcases h.2 with ⟨e, e2⟩ | ⟨g, cap, cur, e, q1, q2, q3, q4, q5, q6⟩
  · omega
  · exact ⟨g, cap, e, by omega⟩

theorem value32 (x : Int) : x / 16777216 * 16777216 + x / 65536 % 256 * 65536 + x / 256 % 256 * 256 + x % 256 = x := by omega

set_option maxRecDepth 100000 in
set_option maxHeartbeats 4000000 in
theorem readASPath_any (base R g o : Nat) (s : St) (l : List Int) (name : ByteArray) (w : World) (hl0 : 0 < l.length) (hl1 : l.length ≤ 63) (hr : ∀ x ∈ l, 0 ≤ x ∧ x ≤ 4294967295)
    (hg : g < w.heap.size) (ho : Out R s g) (hb : Lies w g o ([2, (l.length : Int)] ++ l.flatMap be32)) (hnA : s.nA ≤ 900000) (hnS : s.nS ≤ 900000) (hQ : s.nQ = 0) (hx : s.xQ = []) (h : Bld w base R s) :
    Calls Ybaf.prog 39 #[.pointer (some ⟨R, 17, none⟩), .slice (some ⟨g, o, none⟩) (2 + 4 * l.length) (2 + 4 * l.length), .int .i64 4, .string name] w fun e w' => ∃ gA cA gS cS Q',
      e = .returned (.tuple #[.slice (some ⟨gS, s.nS * 2, none⟩) 1 1, .nilIface]) ∧ Bld w' base R (s.path l gA cA gS cS Q') ∧ Keeps w w' R s (s.path l gA cA gS cS Q') := by
  obtain ⟨n, hn⟩ : ∃ n, n = l.length := ⟨_, rfl⟩
  have b0 : w.cell? ⟨g, o, none⟩ = some (.int .u8 2) := hb 0 _ rfl
  have b1 : w.cell? ⟨g, o + 1, none⟩ = some (.int .u8 n) := by rw [hn]; exact hb 1 _ rfl
  have Hb : Hid (Lies w g (o + 2) (l.flatMap be32)) := hb.right
  have Hr : Hid (∀ x ∈ l, 0 ≤ x ∧ x ≤ 4294967295) := hr
  have Hn : Hid (n = l.length) := hn
  rw [← hn] at hl0 hl1 ⊢
  have Hs : Hid (s.nQ = 0 ∧ s.xQ = []) := ⟨hQ, hx⟩
  clear hb hr hQ hx hn
  have hgt : (0 : Int) < ((2 + 4 * n : Nat) : Int) := by omega
  have hge2 : ¬ ((2 + 4 * n : Nat) : Int) < 2 := by omega
  have hlt0 : 0 < 2 + 4 * n := by omega
  have hlt1 : 1 < 2 + 4 * n := by omega
  have hn0 : ¬ n = 0 := by omega
  go_enter Ybaf.func39, Ybaf.ntmps39
  go_wp2_with fail
  refine wp_loop_rounds 2 ?_
  rw [rounds_succ]
  go_wp2_with fail
  have hs2 : 2 + 4 * n - 2 = 4 * n := by omega
  have hs3 : ¬ 2 + 4 * n = 2 := by omega
  have hs4 : (2 : Int) ≤ 2 + 4 * (n : Int) := by omega
  have hs5 : ¬ (4 * (n : Int) < 4 * (n : Int)) := by omega
  have hs6 : ¬ ((n : Int) = 0) := by omega
  go_quiet (fail)
  go_wp2_with (go_at_call 45; go_must (refine (startSegment_any base R s 2 _ (by rw [Hs.out.1]; omega) (h.grown (grown_drawn w none _))).mono ?_; rintro e w1 ⟨rfl, Q1, h1, k1⟩))
  have hsr : (⟨s.A, s.S, Q1, s.nA, s.nS, s.nQ + 1, s.xA, s.xS, s.xQ ++ [.int .u8 2, .int .i64 s.nA]⟩ : St) = s.read s.A Q1 [] := by
    obtain ⟨e1, e2⟩ := Hs.out
    simp [St.read, e1, e2]
  have k0 : Keeps w w1 R s (s.read s.A Q1 []) := by rw [← hsr]; exact (Keeps.grown h.RltH (grown_drawn w none _)).trans k1
  rw [hsr] at h1
  clear k1 hsr
  go_loopw [66] (fun i wr => ∃ (k : Nat) (A' : Value), k ≤ n ∧ i = .int .i64 k ∧ Bld wr base R (s.read A' Q1 (l.take k)) ∧ Keeps w wr R s (s.read A' Q1 (l.take k))) (fun i _ => n - (intOf i).toNat)
  case atStart => exact ⟨0, s.A, Nat.zero_le _, rfl, h1, k0⟩
  case round =>
    obtain ⟨k, A', hk, rfl, hB, hK⟩ := hrel
    by_cases hlt : k < n
    · obtain ⟨x, hx⟩ : ∃ x, l[k]? = some x := ⟨_, List.getElem?_eq_getElem (by have := Hn.out; omega)⟩
      have hxr := Hr.out x (List.mem_of_getElem? hx)
      have hW := hK.out g hg ho
      obtain ⟨d0, d1, d2, d3⟩ := (Hb.out.block hW.1).at32 hx
      have hgr : g < wr.heap.size := Nat.lt_of_lt_of_le hg hK.size
      have Hx : Hid (l[k]? = some x) := hx
      have HK : Hid (Keeps w wr R s (s.read A' Q1 (l.take k))) := hK
      clear hx hK hW
      have hki : (k : Int) < (n : Int) := by omega
      have m0 : (0 : Int) ≤ 4 * (k : Int) := by omega
      have m1 : 4 * (k : Int) ≤ 4 * (n : Int) := by omega
      have m2 : (4 * (k : Int)).toNat = 4 * k := by omega
      have m3 : 4 * k ≤ 4 * n := by omega
      have m4 : ¬ 4 * n = 4 * k := by omega
      have m5 : ¬ n = k := by omega
      go_wp2_with fail
      go_at_call 47
      refine (readAS_any g (o + 2 + 4 * k) (4 * n - 4 * k) (4 * n - 4 * k) _ _ _ _ wr (by omega) hgr (by omega) (by omega) (by omega) (by omega) (by omega) (by omega) (by omega) (by omega) d0 d1 d2 d3).mono ?_
      rintro e w2 ⟨rfl, k2, rfl⟩
      rw [value32]
      have g2 : wr.grownBy ((wr.alloc (.cells #[] 80)).drewN k2) none := (World.grownBy_alloc wr _ none).andThen (grown_drawn _ none k2) (fun _ h => Or.inr h)
      have h2 := hB.grown g2
      have k3 : Keeps w ((wr.alloc (.cells #[] 80)).drewN k2) R s (s.read A' Q1 (l.take k)) := HK.out.trans (Keeps.grown hB.RltH g2)
      have hlen : (l.take k).length = k := by rw [List.length_take]; have := Hn.out; omega
      clear d0 d1 d2 d3 g2 hB HK
      go_wp2_with (go_at_call 46; go_must (refine (appendAS_any base R _ x _ (by show s.nA + _ ≤ _; rw [hlen]; omega) h2).mono ?_; rintro e w3 ⟨rfl, A2, h3, k4⟩))
      go_roundw
      case rel =>
        have e : (⟨A2, (s.read A' Q1 (l.take k)).S, (s.read A' Q1 (l.take k)).Q, (s.read A' Q1 (l.take k)).nA + 1, (s.read A' Q1 (l.take k)).nS, (s.read A' Q1 (l.take k)).nQ, (s.read A' Q1 (l.take k)).xA ++ [.int .u32 x], (s.read A' Q1 (l.take k)).xS, (s.read A' Q1 (l.take k)).xQ⟩ : St) = s.read A2 Q1 (l.take (k + 1)) := by
          have ht : l.take (k + 1) = l.take k ++ [x] := by rw [List.take_add_one, Hx.out]; rfl
          simp [St.read, ht, Nat.add_assoc]
        rw [e] at h3 k4
        exact ⟨k + 1, A2, by omega, by go_num, h3, k3.trans k4⟩
      case measure => simp [intOf]; omega
    · obtain rfl : k = n := by omega
      have htk : l.take k = l := List.take_of_length_le (by have := Hn.out; omega)
      rw [htk] at hB hK
      have hnk : k = l.length := Hn.out
      obtain ⟨gA, cA, hA, hcA⟩ := own_some hB.oA (show 0 < s.nA + l.length by omega)
      have m1 : 4 * (k : Int) ≤ 4 * (k : Int) := by omega
      have m2 : (4 * (k : Int)).toNat = 4 * k := by omega
      have m0 : (0 : Int) ≤ 4 * (k : Int) := by omega
      have hA2 : A' = .slice (some ⟨gA, 0, none⟩) (s.nA + l.length) cA := hA
      have hP := path_one base R (s.read A' Q1 l) gA cA s.nA 2 wr (show s.nS ≤ _ by omega) hA (show s.nA < s.nA + l.length by omega) hcA rfl rfl hB
      have HK : Hid (Keeps w wr R s (s.read A' Q1 l)) := hK
      have Hn2 : Hid (k = l.length) := hnk
      clear hB hK hA Hn hnk htk
      go_wp2_with fail
      rw [rounds_succ]
      go_wp2_with (go_at_call 48; go_must (refine hP.mono ?_; rintro e w5 ⟨gS, cS, Q2, rfl, h5, k5⟩))
      go_ret2
      have hkk : k = l.length := Hn2.out
      have e : (⟨(s.read A' Q1 l).A, .slice (some ⟨gS, 0, none⟩) ((s.read A' Q1 l).nS + 1) cS, Q2, (s.read A' Q1 l).nA, (s.read A' Q1 l).nS + 1, 0, (s.read A' Q1 l).xA, (s.read A' Q1 l).xS ++ [.int .u8 2, .slice (some ⟨gA, s.nA, none⟩) ((s.read A' Q1 l).nA - s.nA) ((s.read A' Q1 l).nA - s.nA)], []⟩ : St) = s.path l gA cA gS cS Q2 := by
        simp [St.read, St.path, hA2]
      rw [e] at h5 k5
      exact ⟨gA, cA, gS, cS, Q2, rfl, h5, HK.out.trans k5⟩
end Go.Proofs.YbulkaigaFmt
