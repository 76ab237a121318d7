import Derived.Deep.AppendLies
import Derived.Laws.OwnMore
import Derived.WalkKit
namespace Go.Proofs.YbulkaigaFmt
open Go
section
variable {P : Program} (w : World)

/-- 'append' onto a row that the call owns, with one word more than the kit's law: whatever lay in that row below its length still lies there, whether the row was written on or a longer one was made. -/
theorem run_append_keeps (t ty : TypeId) (base : Nat) (e : TypeId) (i : TypeInfo) (z : Value) (size bytes : Nat) (ht : P.underlying t = some (.slice e)) (hi : P.info? e = some i) (hz : i.zero = some z)
    (hsize : i.size = size) (hby : i.bytes = bytes) (hzs : z.cells.size = size) (hsz : 0 < size)
    (v : Value) (n : Nat) (xs : List Value) (hown : w.ownsRow base e size v n xs)
    (ad : Addr) (m c : Nat) (news : List Value) (hl : news.length = m * size) (hnews : ∀ j u, news[j]? = some u → w.cell? (ad.add j) = some u) (h1 : ∀ u ∈ news, u.oneCell' = true)
    (hm : 0 < m) (h63 : n + m ≤ maxLen) (hbytes : (n + m) * bytes ≤ 140737488355328) (hbase : base ≤ w.heap.size) (H : Nat) (hH : w.heap.size = H) :
    ∃ g cap w', (Builtin.append_ #[t, t] ty #[v, .slice (some ad) m c]).run P w = .ok (.slice (some ⟨g, 0, none⟩) (n + m) cap) w' ∧
      w'.ownsRow base e size (.slice (some ⟨g, 0, none⟩) (n + m) cap) (n + m) (xs ++ news) ∧ w.grownBy w' v.ownBlock ∧ (v.ownBlock = some g ∨ g = H) ∧ g < w'.heap.size ∧
      (∀ b j, v.ownBlock = some b → j < n * size → w'.cell? ⟨b, j, none⟩ = w.cell? ⟨b, j, none⟩) := by
  obtain ⟨g, cap, w', hr, ho, hg, hat, hlt⟩ := run_append_lies (P := P) w t ty base e i z size bytes ht hi hz hsize hby hzs hsz v n xs hown ad m c news hl hnews h1 hm h63 hbytes hbase H hH
  refine ⟨g, cap, w', hr, ho, hg, hat, hlt, ?_⟩
  intro b j hb hj
  have hlx : xs.length = n * size := hown.1
  by_cases hgb : g = b
  · subst hgb
    rw [ho.cellAt j (by rw [Nat.add_mul]; omega), List.getElem?_append_left (by omega)]
    rcases hown.2 with ⟨e1, e2⟩ | ⟨g', cap', cur, e1, _⟩
    · rw [e1] at hb; simp [Value.ownBlock] at hb
    · subst e1
      have e3 : g' = g := by simpa [Value.ownBlock] using hb
      subst e3
      exact (hown.cellAt j hj).symm
  · rcases hown.2 with ⟨e1, e2⟩ | ⟨g', cap', cur, e1, _, hcur, hnc, _, hcs, _⟩
    · rw [e1] at hb; simp [Value.ownBlock] at hb
    · subst e1
      have e3 : g' = b := by simpa [Value.ownBlock] using hb
      subst e3
      by_cases hroom : n + m ≤ cap'
      · subst hsize
        have hfit : n * i.size + news.length ≤ cur.size := by rw [hl, hcs, ← Nat.add_mul]; exact Nat.mul_le_mul_right _ hroom
        have hr2 := run_append_room (P := P) w t ty e i ht hi g' n cap' cur hcur ad m c news hl hnews h1 hroom hfit
        rw [hr] at hr2
        injection hr2 with e4 _
        injection e4 with e5
        injection e5 with e6
        injection e6 with e7
        exact absurd e7 hgb
      · subst hsize
        subst hby
        have holds : ∀ j u, xs[j]? = some u → w.cell? ((⟨g', 0, none⟩ : Addr).add j) = some u := hown.cells (g := g') rfl
        have hs : n + m ≤ 9223372036854775807 := by simp only [maxLen] at h63; omega
        have hr2 := run_append_grow (P := P) w t ty e i z ht hi hz ⟨g', 0, none⟩ n cap' xs hown.1 holds ad m c news hl hnews (by omega) (by omega) (growslice_fits (by omega) hbytes)
        rw [hr] at hr2
        injection hr2 with _ e5
        rw [e5]
        have hlt2 : g' < w.heap.size := (Array.getElem?_eq_some_iff.1 hcur).1
        exact ((RowKit.Below.refl _ w).drew.alloc (by simp) _).cell (p := ⟨g', j, none⟩) hlt2

/-- At the list of a plain region's operations. -/
theorem wpList_append_keeps {ops : Array Oper} {rest : List Oper} {o : Oper} {a : Act} {Q : Exit → Act → World → Prop} (hgd : o.guard = none) (s x : Operand) (t : TypeId)
    (ho : o.op = .call { callee := .builtin .append, args := #[s, x], argTypes := #[t, t] })
    (base : Nat) (e : TypeId) (i : TypeInfo) (z : Value) (size bytes : Nat) (ht : P.underlying t = some (.slice e)) (hi : P.info? e = some i) (hz : i.zero = some z)
    (hsize : i.size = size) (hby : i.bytes = bytes) (hzs : z.cells.size = size) (hsz : 0 < size)
    (v : Value) (n : Nat) (xs : List Value) (hs : a.eval s = v) (hown : w.ownsRow base e size v n xs)
    (ad : Addr) (m c : Nat) (news : List Value) (hx : a.eval x = .slice (some ad) m c) (hl : news.length = m * size) (hnews : ∀ j u, news[j]? = some u → w.cell? (ad.add j) = some u) (h1 : ∀ u ∈ news, u.oneCell' = true)
    (hm : 0 < m) (h63 : n + m ≤ maxLen) (hbytes : (n + m) * bytes ≤ 140737488355328) (hbase : base ≤ w.heap.size) (H : Nat) (hH : w.heap.size = H)
    (h : ∀ g cap w', w'.ownsRow base e size (.slice (some ⟨g, 0, none⟩) (n + m) cap) (n + m) (xs ++ news) → w.grownBy w' v.ownBlock → (v.ownBlock = some g ∨ g = H) → g < w'.heap.size →
      (∀ b j, v.ownBlock = some b → j < n * size → w'.cell? ⟨b, j, none⟩ = w.cell? ⟨b, j, none⟩) → wpList P ops Q rest (a.put o.dst (.slice (some ⟨g, 0, none⟩) (n + m) cap)) w') : wpList P ops Q (o :: rest) a w := by
  refine wpList_plain hgd fun K hK => ?_
  obtain ⟨g, cap, w', hr, h2, h3, h4, h5, h6⟩ := run_append_keeps (P := P) w t o.type base e i z size bytes ht hi hz hsize hby hzs hsz v n xs hown ad m c news hl hnews h1 hm h63 hbytes hbase H hH
  unfold Oper.wp execOp
  simp only [ho, resolve, invoke, builtin, Sem.run_bind, Sem.run_pure, Result.andThen_ok, List.map_toArray, List.map_cons, List.map_nil, hs, hx, hr]
  exact hK _ _ (h g cap w' h2 h3 h4 h5 h6)

/-- At a step of a region that draws its order. -/
theorem step_append_keeps {ops : Array Oper} {o : Oper} {a : Act} {K : Act → World → Prop} {Q : Exit → Act → World → Prop} {E : Prop} (hgd : o.guard = none) (s x : Operand) (t : TypeId)
    (ho : o.op = .call { callee := .builtin .append, args := #[s, x], argTypes := #[t, t] })
    (base : Nat) (e : TypeId) (i : TypeInfo) (z : Value) (size bytes : Nat) (ht : P.underlying t = some (.slice e)) (hi : P.info? e = some i) (hz : i.zero = some z)
    (hsize : i.size = size) (hby : i.bytes = bytes) (hzs : z.cells.size = size) (hsz : 0 < size)
    (v : Value) (n : Nat) (xs : List Value) (hs : a.eval s = v) (hown : w.ownsRow base e size v n xs)
    (ad : Addr) (m c : Nat) (news : List Value) (hx : a.eval x = .slice (some ad) m c) (hl : news.length = m * size) (hnews : ∀ j u, news[j]? = some u → w.cell? (ad.add j) = some u) (h1 : ∀ u ∈ news, u.oneCell' = true)
    (hm : 0 < m) (h63 : n + m ≤ maxLen) (hbytes : (n + m) * bytes ≤ 140737488355328) (hbase : base ≤ w.heap.size) (H : Nat) (hH : w.heap.size = H)
    (h : ∀ g cap w', w'.ownsRow base e size (.slice (some ⟨g, 0, none⟩) (n + m) cap) (n + m) (xs ++ news) → w.grownBy w' v.ownBlock → (v.ownBlock = some g ∨ g = H) → g < w'.heap.size →
      (∀ b j, v.ownBlock = some b → j < n * size → w'.cell? ⟨b, j, none⟩ = w.cell? ⟨b, j, none⟩) → K (a.put o.dst (.slice (some ⟨g, 0, none⟩) (n + m) cap)) w') :
    if Region.wanted o (yielded ops a.tmps) = true then o.wp P a w K Q else E := by
  have hw : Region.wanted o (yielded ops a.tmps) = true := by simp [Region.wanted, hgd]
  rw [if_pos hw]
  obtain ⟨g, cap, w', hr, h2, h3, h4, h5, h6⟩ := run_append_keeps (P := P) w t o.type base e i z size bytes ht hi hz hsize hby hzs hsz v n xs hown ad m c news hl hnews h1 hm h63 hbytes hbase H hH
  unfold Oper.wp execOp
  simp only [ho, resolve, invoke, builtin, Sem.run_bind, Sem.run_pure, Result.andThen_ok, List.map_toArray, List.map_cons, List.map_nil, hs, hx, hr]
  exact h g cap w' h2 h3 h4 h5 h6
end
end Go.Proofs.YbulkaigaFmt
