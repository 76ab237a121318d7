import Derived.Test.YbulkaigaFmtMask
import Derived.Test.YbulkaigaFmtEqual
import Derived.Test.YbulkaigaFmtEq28
import Derived.Test.YbulkaigaFmtOrders
import Derived.BigRegion
import Derived.BigQuiet
import Derived.Deep.CutRange
namespace Go.Proofs.YbulkaigaFmt
open Go.RowKit

def firstLoop : Code → Option Code
  | .loop c => some c
  | .seq a b => match firstLoop a with
    | some c => some c
    | none => firstLoop b
  | .block _ c => firstLoop c
  | .scope c => firstLoop c
  | .cond _ a b => match firstLoop a with
    | some c => some c
    | none => firstLoop b
  | _ => none

section
variable {P : Program} {ops : Array Oper} {Q : Exit → Act → World → Prop} {md : Region.Mode} {S : World → Prop}
theorem wp_normal {c : Code} {a : Act} {w : World} (h : c.wp P (fun e a w => e = .normal ∧ Q e a w) a w) : c.wp P Q a w := wp_mono h (fun _ _ _ h => h.2)
theorem wpAnyH_takeD (i : Nat) {oi : Oper} {rest : List Oper} {v : Value} {fuel : Nat} {listed : Array Bool} {a : Act} {w : World} (hi : ops.toList.drop i = oi :: rest)
    (hs : Region.noSelect ops = true) (hf : Region.free md ops listed i = true) (hr : (Region.ready md ops listed).contains i = true)
    (hQ : ∀ c a w, Q (.panic c) (a.put oi.dst v) w → Q (.panic c) a w) (hw : Region.wanted oi (yielded ops a.tmps) = true) (hS : S w) (hy : ∀ w, S w → (execOp a.eval oi).run P w = .ok (.value v) w)
    (h : wpAnyH P md ops Q S fuel (listed.setIfInBounds i true) (a.put oi.dst v) w) : wpAnyH P md ops Q S (fuel + 1) listed a w :=
  wpAnyH_take (at_of_drop hi) hs hf hr hQ (.inl ⟨hw, hy⟩) hS h
theorem wpAnyH_oneD (i : Nat) {o : Oper} {rest : List Oper} {fuel : Nat} {listed : Array Bool} {a : Act} {w : World} (hr : Region.ready md ops listed = [i]) (ho : ops.toList.drop i = o :: rest)
    (h : ∀ K : Act → World → Prop, (∀ a' w', S w' → wpAnyH P md ops Q S fuel (listed.setIfInBounds i true) a' w' → K a' w') →
      if Region.wanted o (yielded ops a.tmps) = true then o.wp P a w K Q else K (a.put o.dst undef) w) :
    wpAnyH P md ops Q S (fuel + 1) listed a w := by
  refine wpAnyH_all hr (by simp) ?_
  intro j hj
  simp only [List.mem_singleton] at hj
  subst hj
  unfold wpOp
  simp only [at_of_drop ho]
  have h2 := h (fun a' w' => S w' ∧ wpAnyH P md ops Q S fuel (listed.setIfInBounds j true) a' w') (fun a' w' h1 h2 => ⟨h1, h2⟩)
  split
  · rename_i hw
    rw [if_pos hw] at h2
    exact .inl h2
  · rename_i hw
    rw [if_neg hw] at h2
    exact h2
end

/-- The cells that a path's value leads to. -/
def PathMem (w : World) (path : Value) (l : List Int) : Prop :=
  (l = [] ∧ path = .slice none 0 0) ∨ ∃ gS oS gA oA, 0 < l.length ∧ path = .slice (some ⟨gS, oS, none⟩) 1 1 ∧ w.cell? ⟨gS, oS, none⟩ = some (.int .u8 2) ∧ w.cell? ⟨gS, oS + 1, none⟩ = some (.slice (some ⟨gA, oA, none⟩) l.length l.length) ∧
    ∀ i x, l[i]? = some x → w.cell? ⟨gA, oA + i, none⟩ = some (.int .u32 x)
/-- The routes behind the first, one an entry. -/
def RtMem (w : World) (gv : Nat) (hi lo : Int) (pp : Option Go.Addr) (m : Nat) (P : Nat → Int) (es : List Ent) : Prop :=
  ∀ i e, es[i]? = some e → ∃ path, w.cell? ⟨gv, (1 + i) * 7, none⟩ = some (.int .u64 hi) ∧ w.cell? ⟨gv, (1 + i) * 7 + 1, none⟩ = some (.int .u64 lo) ∧ w.cell? ⟨gv, (1 + i) * 7 + 2, none⟩ = some (.pointer pp) ∧ w.cell? ⟨gv, (1 + i) * 7 + 3, none⟩ = some (.int .u8 ((m : Int) + 1)) ∧
    w.cell? ⟨gv, (1 + i) * 7 + 4, none⟩ = some path ∧ w.cell? ⟨gv, (1 + i) * 7 + 5, none⟩ = some (.int .u32 (P e.peer)) ∧ w.cell? ⟨gv, (1 + i) * 7 + 6, none⟩ = some (.int .u32 0) ∧ PathMem w path e.asns
theorem row7 {w : World} {g : Nat} {a b c d e f h : Value} {t : TypeId} (z : w.heap[g]? = some (.cells #[a, b, c, d, e, f, h] t (0, 0))) :
    w.cell? ⟨g, 0, none⟩ = some a ∧ w.cell? ⟨g, 1, none⟩ = some b ∧ w.cell? ⟨g, 2, none⟩ = some c ∧ w.cell? ⟨g, 3, none⟩ = some d ∧ w.cell? ⟨g, 4, none⟩ = some e ∧ w.cell? ⟨g, 5, none⟩ = some f ∧ w.cell? ⟨g, 6, none⟩ = some h :=
  ⟨cell_of_row _ _ 0 _ _ _ z, cell_of_row _ _ 1 _ _ _ z, cell_of_row _ _ 2 _ _ _ z, cell_of_row _ _ 3 _ _ _ z, cell_of_row _ _ 4 _ _ _ z, cell_of_row _ _ 5 _ _ _ z, cell_of_row _ _ 6 _ _ _ z⟩

set_option maxRecDepth 100000 in
set_option maxHeartbeats 8000000 in
theorem loop5 (hi lo : Int) (pp : Option Go.Addr) (m : Nat) (P : Nat → Int) (E : List (Nat × List Int)) (p : Option Go.Addr) (cE gp np cp R gv cv b23 : Nat) (v0 v1 v2 v3 v4 v5 v6 v7 v8 v9 v10 v11 v12 v13 v14 v15 : Int) (w : World) (Q : Exit → Act → World → Prop)
    (hm : m ≤ 128) (h0 : 0 ≤ hi) (h1 : hi ≤ 18446744073709551615) (l0 : 0 ≤ lo) (l1 : lo ≤ 18446744073709551615)
    (hwant : bytes16 hi lo = .agg #[.int .u8 v0, .int .u8 v1, .int .u8 v2, .int .u8 v3, .int .u8 v4, .int .u8 v5, .int .u8 v6, .int .u8 v7, .int .u8 v8, .int .u8 v9, .int .u8 v10, .int .u8 v11, .int .u8 v12, .int .u8 v13, .int .u8 v14, .int .u8 v15]) (z23 : w.heap[b23]? = some (.cells #[.int .u8 v0, .int .u8 v1, .int .u8 v2, .int .u8 v3, .int .u8 v4, .int .u8 v5, .int .u8 v6, .int .u8 v7, .int .u8 v8, .int .u8 v9, .int .u8 v10, .int .u8 v11, .int .u8 v12, .int .u8 v13, .int .u8 v14, .int .u8 v15] 28 (0, 0)))
    (cV : w.cell? ⟨R, 16, none⟩ = some (.slice (some ⟨gv, 0, none⟩) (1 + E.length) cv))
    (hRt : RtMem w gv hi lo pp m P (E.map (entOf np))) (hE : EntMem w p E) (hEl : E.length ≤ 300) (hnp0 : 0 < np) (hnp1 : np ≤ 1024)
    (hP : ∀ i, i < np → w.cell? ⟨gp, i, none⟩ = some (.int .u32 (P i)))
    (c0 c1 c2 c3 c4 c5 c6 c7 c8 c9 c10 c11 c12 c13 c14 c16 c17 c18 c19 c22 c24 c25 c26 c27 c28 c29 c30 c31 c32 c33 c34 c35 c36 c37 c38 c39 c40 c41 c42 c43 c44 c45 c46 c47 c48 c49 c50 c51 c52 c53 c54 c55 c56 c57 c58 c59 c60 c61 c62 c63 c64 c65 c66 c67 c68 c69 c70 c71 c72 c73 c74 c75 c76 c77 c78 c79 c80 c81 c82 c83 c84 c85 c86 c87 c88 c89 c90 c91 c92 c93 c94 c95 c96 c97 c98 c99 c100 c101 c102 c103 c104 c105 c109 c110 c111 c112 c113 c114 c115 c116 c117 c118 c119 c120 c121 c122 c123 c124 c125 c126 c127 c128 c129 c130 c131 c132 c133 c134 c135 c136 c137 c138 c139 c140 c141 c142 c143 c144 c145 c146 c147 c148 c149 c150 c151 c152 c153 c154 c155 c156 c157 c158 c159 c160 c161 c162 c163 c164 c165 c166 c167 c168 c169 c170 c171 c172 c173 c174 c175 c176 c177 : Value)
    (hexit : ∀ (u0 u1 u2 u3 u4 u5 u6 u7 u8 u9 u10 u11 u12 u13 u14 u15 u16 u17 u18 u19 u20 u21 u22 u23 u24 u25 u26 u27 u28 u29 u30 u31 u32 u33 u34 u35 u36 u37 u38 u39 u40 u41 u42 u43 u44 u45 u46 u47 u48 u49 u50 u51 u52 u53 u54 u55 u56 u57 u58 u59 u60 u61 u62 u63 u64 u65 u66 u67 u68 u69 u70 u71 u72 u73 u74 u75 u76 u77 u78 u79 u80 u81 u82 u83 u84 u85 u86 u87 u88 u89 u90 u91 u92 u93 u94 u95 u96 u97 u98 u99 u100 u101 u102 u103 u104 u105 u106 u107 u108 u109 u110 u111 u112 u113 u114 u115 u116 u117 u118 u119 u120 u121 u122 u123 u124 u125 u126 u127 u128 u129 u130 u131 u132 u133 u134 u135 u136 u137 u138 u139 u140 u141 u142 u143 u144 u145 u146 u147 u148 u149 u150 u151 u152 u153 u154 u155 u156 u157 u158 u159 u160 u161 u162 u163 u164 u165 u166 u167 u168 u169 u170 u171 u172 u173 u174 u175 u176 u177 : Value) (w' : World), w.grownBy w' none → Q (.exit 0) ⟨List.toArray (u0 :: u1 :: u2 :: u3 :: u4 :: u5 :: u6 :: u7 :: u8 :: u9 :: u10 :: u11 :: u12 :: u13 :: u14 :: u15 :: u16 :: u17 :: u18 :: u19 :: u20 :: u21 :: u22 :: u23 :: u24 :: u25 :: u26 :: u27 :: u28 :: u29 :: u30 :: u31 :: u32 :: u33 :: u34 :: u35 :: u36 :: u37 :: u38 :: u39 :: u40 :: u41 :: u42 :: u43 :: u44 :: u45 :: u46 :: u47 :: u48 :: u49 :: u50 :: u51 :: u52 :: u53 :: u54 :: u55 :: u56 :: u57 :: u58 :: u59 :: u60 :: u61 :: u62 :: u63 :: u64 :: u65 :: u66 :: u67 :: u68 :: u69 :: u70 :: u71 :: u72 :: u73 :: u74 :: u75 :: u76 :: u77 :: u78 :: u79 :: u80 :: u81 :: u82 :: u83 :: u84 :: u85 :: u86 :: u87 :: u88 :: u89 :: u90 :: u91 :: u92 :: u93 :: u94 :: u95 :: u96 :: u97 :: u98 :: u99 :: u100 :: u101 :: u102 :: u103 :: u104 :: u105 :: u106 :: u107 :: u108 :: u109 :: u110 :: u111 :: u112 :: u113 :: u114 :: u115 :: u116 :: u117 :: u118 :: u119 :: u120 :: u121 :: u122 :: u123 :: u124 :: u125 :: u126 :: u127 :: u128 :: u129 :: u130 :: u131 :: u132 :: u133 :: u134 :: u135 :: u136 :: u137 :: u138 :: u139 :: u140 :: u141 :: u142 :: u143 :: u144 :: u145 :: u146 :: u147 :: u148 :: u149 :: u150 :: u151 :: u152 :: u153 :: u154 :: u155 :: u156 :: u157 :: u158 :: u159 :: u160 :: u161 :: u162 :: u163 :: u164 :: u165 :: u166 :: u167 :: u168 :: u169 :: u170 :: u171 :: u172 :: u173 :: u174 :: u175 :: u176 :: u177 :: []), []⟩ w') :
    Code.wp Ybaf.prog (Code.loop ((Ybaf.f5.body.bind firstLoop).getD .skip)) Q ⟨List.toArray (c0 :: c1 :: c2 :: c3 :: c4 :: c5 :: c6 :: c7 :: c8 :: c9 :: c10 :: c11 :: c12 :: c13 :: c14 :: (.slice (some ⟨gp, 0, none⟩) np cp) :: c16 :: c17 :: c18 :: c19 :: (.int .i64 (m : Int)) :: (.pointer (some ⟨R, 0, none⟩)) :: c22 :: (.pointer (some ⟨b23, 0, none⟩)) :: c24 :: c25 :: c26 :: c27 :: c28 :: c29 :: c30 :: c31 :: c32 :: c33 :: c34 :: c35 :: c36 :: c37 :: c38 :: c39 :: c40 :: c41 :: c42 :: c43 :: c44 :: c45 :: c46 :: c47 :: c48 :: c49 :: c50 :: c51 :: c52 :: c53 :: c54 :: c55 :: c56 :: c57 :: c58 :: c59 :: c60 :: c61 :: c62 :: c63 :: c64 :: c65 :: c66 :: c67 :: c68 :: c69 :: c70 :: c71 :: c72 :: c73 :: c74 :: c75 :: c76 :: c77 :: c78 :: c79 :: c80 :: c81 :: c82 :: c83 :: c84 :: c85 :: c86 :: c87 :: c88 :: c89 :: c90 :: c91 :: c92 :: c93 :: c94 :: c95 :: c96 :: c97 :: c98 :: c99 :: c100 :: c101 :: c102 :: c103 :: c104 :: c105 :: (.slice p E.length cE) :: (.int .i64 (E.length : Int)) :: (.int .i64 0) :: c109 :: c110 :: c111 :: c112 :: c113 :: c114 :: c115 :: c116 :: c117 :: c118 :: c119 :: c120 :: c121 :: c122 :: c123 :: c124 :: c125 :: c126 :: c127 :: c128 :: c129 :: c130 :: c131 :: c132 :: c133 :: c134 :: c135 :: c136 :: c137 :: c138 :: c139 :: c140 :: c141 :: c142 :: c143 :: c144 :: c145 :: c146 :: c147 :: c148 :: c149 :: c150 :: c151 :: c152 :: c153 :: c154 :: c155 :: c156 :: c157 :: c158 :: c159 :: c160 :: c161 :: c162 :: c163 :: c164 :: c165 :: c166 :: c167 :: c168 :: c169 :: c170 :: c171 :: c172 :: c173 :: c174 :: c175 :: c176 :: c177 :: []), []⟩ w := by
  have HE : Hid (EntMem w p E) := hE
  have HRt : Hid (RtMem w gv hi lo pp m P (E.map (entOf np))) := hRt
  have HP : Hid (∀ i, i < np → w.cell? ⟨gp, i, none⟩ = some (.int .u32 (P i))) := hP
  have Hwant : Hid (bytes16 hi lo = .agg #[.int .u8 v0, .int .u8 v1, .int .u8 v2, .int .u8 v3, .int .u8 v4, .int .u8 v5, .int .u8 v6, .int .u8 v7, .int .u8 v8, .int .u8 v9, .int .u8 v10, .int .u8 v11, .int .u8 v12, .int .u8 v13, .int .u8 v14, .int .u8 v15]) := hwant
  clear hE hRt hP hwant
  conv => arg 2; arg 1; whnf
  go_loopw [108] (fun i wr => ∃ k : Nat, k ≤ E.length ∧ i = .int .i64 k ∧ w.grownBy wr none) (fun i _ => E.length - (intOf i).toNat)
  case atStart => exact ⟨0, Nat.zero_le _, rfl, grown_refl w⟩
  case round =>
    obtain ⟨k, hk, rfl, gw⟩ := hrel
    by_cases hlt : k < E.length
    · obtain ⟨pe, hpe⟩ : ∃ pe, E[k]? = some pe := ⟨_, List.getElem?_eq_getElem hlt⟩
      obtain ⟨hp1, hp2, hp3, b, off, pa, ca, rfl, e2', e3', e4, e5⟩ := HE.out k pe hpe
      have e2 := gw.cell e2' (by simp)
      have e3 := gw.cell e3' (by simp)
      rw [Nat.mul_comm 2 k] at e2 e3
      obtain ⟨pr, la⟩ := pe
      simp only at hp1 hp2 hp3 e2 e3 e4 e5
      obtain ⟨path, r0', r1', r2', r3', r4', r5', r6', hpath⟩ := HRt.out k (entOf np (pr, la)) (by rw [List.getElem?_map, hpe]; rfl)
      obtain ⟨qp, qn, rfl⟩ : ∃ qp qn, path = .slice qp qn qn := by
        rcases hpath with ⟨_, h⟩ | ⟨_, _, _, _, _, h, _⟩
        · exact ⟨_, _, h⟩
        · exact ⟨_, _, h⟩
      obtain ⟨px, hpx⟩ : ∃ px, px = pr % np := ⟨_, rfl⟩
      have hr5 : w.cell? ⟨gv, (1 + k) * 7 + 5, none⟩ = some (.int .u32 (P px)) := by rw [hpx]; exact r5'
      have hpxl : px < np := by rw [hpx]; exact Nat.mod_lt _ hnp0
      have t1 : (pr : Int).tmod (np : Int) = (px : Int) := by rw [Int.tmod_eq_emod_of_nonneg (by omega), hpx]; omega
      have r0 := gw.cell r0' (by simp)
      have r1 := gw.cell r1' (by simp)
      have r2 := gw.cell r2' (by simp)
      have r3 := gw.cell r3' (by simp)
      have r4 := gw.cell r4' (by simp)
      have r5 := gw.cell hr5 (by simp)
      have r6 := gw.cell r6' (by simp)
      have kP := gw.cell (HP.out px hpxl) (by simp)
      have kV := gw.cell cV (by simp)
      have z23r := row_grown z23 gw
      have HPath : Hid (PathMem w (.slice qp qn qn) (la.take 63)) := hpath
      have Hc : Hid (∀ j x, la[j]? = some x → ∃ ba oa, pa = some ⟨ba, oa, none⟩ ∧ w.cell? ⟨ba, oa + j, none⟩ = some (.int .u32 x)) := e5
      have xi : (k : Int) < (E.length : Int) := by omega
      have Hpx : Hid (px = pr % np) := hpx
      clear hpe e5 hp3 e2' e3' hpx hpath r0' r1' r2' r3' r4' r5' r6' hr5
      have g1 := World.grownBy_alloc wr (.cells #[.int .u16 (pr : Int), .slice pa la.length ca] 63) none
      have y1 := heap_alloc_new wr (.cells #[.int .u16 (pr : Int), .slice pa la.length ca] 63)
      go_upto_region 21 with fail
      obtain ⟨W1, hW1⟩ : ∃ W1, W1 = wr.alloc (.cells #[.int .u16 (pr : Int), .slice pa la.length ca] 63) := ⟨_, rfl⟩
      rw [← hW1] at g1 y1 ⊢
      clear hW1
      obtain ⟨b25, hb25⟩ : ∃ b25, b25 = wr.heap.size := ⟨_, rfl⟩
      rw [← hb25] at y1 ⊢
      clear hb25
      replace r0 := g1.cell r0 (by simp)
      replace r1 := g1.cell r1 (by simp)
      replace r2 := g1.cell r2 (by simp)
      replace r3 := g1.cell r3 (by simp)
      replace r4 := g1.cell r4 (by simp)
      replace r5 := g1.cell r5 (by simp)
      replace r6 := g1.cell r6 (by simp)
      replace kP := g1.cell kP (by simp)
      replace kV := g1.cell kV (by simp)
      replace z23r := row_grown z23r g1
      replace gw := grown_then gw g1
      clear g1 e2 e3
      have j1 : (1 : Int) + (k : Int) < 1 + (E.length : Int) := by omega
      have j2 : (1 + (k : Int)).toNat = 1 + k := by omega
      have g2 := World.grownBy_alloc W1 (.cells #[.int .u64 hi, .int .u64 lo, .pointer pp, .int .u8 ((m : Int) + 1), .slice qp qn qn, .int .u32 (P px), .int .u32 0] 51) none
      have y2 := heap_alloc_new W1 (.cells #[.int .u64 hi, .int .u64 lo, .pointer pp, .int .u8 ((m : Int) + 1), .slice qp qn qn, .int .u32 (P px), .int .u32 0] 51)
      go_upto_region 22 with fail
      obtain ⟨W2, hW2⟩ : ∃ W2, W2 = W1.alloc (.cells #[.int .u64 hi, .int .u64 lo, .pointer pp, .int .u8 ((m : Int) + 1), .slice qp qn qn, .int .u32 (P px), .int .u32 0] 51) := ⟨_, rfl⟩
      rw [← hW2] at g2 y2 ⊢
      clear hW2
      obtain ⟨b26, hb26⟩ : ∃ b26, b26 = W1.heap.size := ⟨_, rfl⟩
      rw [← hb26] at y2 ⊢
      clear hb26 r0 r1 r2 r3 r4 r5 r6 kV
      replace kP := g2.cell kP (by simp)
      replace z23r := row_grown z23r g2
      replace y1 := row_grown y1 g2
      replace gw := grown_then gw g2
      clear g2
      obtain ⟨s0, s1, s2, s3, s4, s5, s6⟩ := row7 y2
      obtain ⟨q0, q1, q2, q3, q4, q5, q6, q7, q8, q9, q10, q11, q12, q13, q14, q15, _⟩ := row16 z23r
      have hS0 : W2.grownBy W2.drew none := grown_drawn W2 none 1
      have n1 : ((m : Int) != (m : Int)) = false := by simp
      refine wp_normal (wp_region_held_drew (S := fun w' => W2.grownBy w' none) (by kernel_rfl) hS0 (fun hS0 => ?_))
      refine wpAnyH_takeD 0 (v := ?va0) rfl (by kernel_rfl) (by kernel_rfl) (by kernel_rfl) (fun _ _ _ h => absurd h.1 (by simp)) (by rfl) hS0 ?ya0 ?ra0
      case ya0 => (intro wz hSw; (try dsimp only at hSw); go_simp; try with_reducible rfl)
      try simp only [Act.put, List.setIfInBounds_toArray, List.set_cons_zero, List.set_cons_succ]
      refine wpAnyH_takeD 1 (v := ?va1) rfl (by kernel_rfl) (by kernel_rfl) (by kernel_rfl) (fun _ _ _ h => absurd h.1 (by simp)) (by rfl) hS0 ?ya1 ?ra1
      case ya1 => (intro wz hSw; (try dsimp only at hSw); have d0 := hSw.cell s0 (by simp); have d1 := hSw.cell s1 (by simp); have d2 := hSw.cell s2 (by simp); have d3 := hSw.cell s3 (by simp); go_simp; try with_reducible rfl)
      try simp only [Act.put, List.setIfInBounds_toArray, List.set_cons_zero, List.set_cons_succ]
      refine wpAnyH_takeD 3 (v := ?va3) rfl (by kernel_rfl) (by kernel_rfl) (by kernel_rfl) (fun _ _ _ h => absurd h.1 (by simp)) (by rfl) hS0 ?ya3 ?ra3
      case ya3 => (intro wz hSw; (try dsimp only at hSw); go_simp; try with_reducible rfl)
      try simp only [Act.put, List.setIfInBounds_toArray, List.set_cons_zero, List.set_cons_succ]
      refine wpAnyH_oneD 2 (by kernel_rfl) rfl (fun K hK => ?_)
      go_simp
      refine (bits13_any hi lo pp m W2.drew hm).mono ?_
      rintro e X1 ⟨rfl, hX1⟩
      have hS1 : W2.grownBy X1 none := by rw [hX1]; exact grown_then hS0 (World.grownBy_alloc _ _ none)
      clear hX1
      refine hK _ _ hS1 ?_
      clear hK K
      try simp only [Act.put, List.setIfInBounds_toArray, List.set_cons_zero, List.set_cons_succ]
      refine wpAnyH_takeD 4 (v := ?va4) rfl (by kernel_rfl) (by kernel_rfl) (by kernel_rfl) (fun _ _ _ h => absurd h.1 (by simp)) (by rfl) hS1 ?ya4 ?ra4
      case ya4 => (intro wz hSw; (try dsimp only at hSw); go_simp; try with_reducible rfl)
      try simp only [Act.put, List.setIfInBounds_toArray, List.set_cons_zero, List.set_cons_succ]
      refine wpAnyH_takeD 5 (v := ?va5) rfl (by kernel_rfl) (by kernel_rfl) (by kernel_rfl) (fun _ _ _ h => absurd h.1 (by simp)) (by rfl) hS1 ?ya5 ?ra5
      case ya5 => (intro wz hSw; (try dsimp only at hSw); go_simp; try with_reducible rfl)
      try simp only [Act.put, List.setIfInBounds_toArray, List.set_cons_zero, List.set_cons_succ]
      refine wpAnyH_takeD 6 (v := ?va6) rfl (by kernel_rfl) (by kernel_rfl) (by kernel_rfl) (fun _ _ _ h => absurd h.1 (by simp)) (by rfl) hS1 ?ya6 ?ra6
      case ya6 => (intro wz hSw; (try dsimp only at hSw); go_simp; try with_reducible rfl)
      try simp only [Act.put, List.setIfInBounds_toArray, List.set_cons_zero, List.set_cons_succ]
      refine wpAnyH_takeD 7 (v := ?va7) rfl (by kernel_rfl) (by kernel_rfl) (by kernel_rfl) (fun _ _ _ h => absurd h.1 (by simp)) (by rfl) hS1 ?ya7 ?ra7
      case ya7 => (intro wz hSw; (try dsimp only at hSw); have d0 := hSw.cell s0 (by simp); have d1 := hSw.cell s1 (by simp); have d2 := hSw.cell s2 (by simp); have d3 := hSw.cell s3 (by simp); go_simp; try with_reducible rfl)
      try simp only [Act.put, List.setIfInBounds_toArray, List.set_cons_zero, List.set_cons_succ]
      refine wpAnyH_takeD 10 (v := ?va10) rfl (by kernel_rfl) (by kernel_rfl) (by kernel_rfl) (fun _ _ _ h => absurd h.1 (by simp)) (by rfl) hS1 ?ya10 ?ra10
      case ya10 => (intro wz hSw; (try dsimp only at hSw); have d0 := hSw.cell q0 (by simp); have d1 := hSw.cell q1 (by simp); have d2 := hSw.cell q2 (by simp); have d3 := hSw.cell q3 (by simp); have d4 := hSw.cell q4 (by simp); have d5 := hSw.cell q5 (by simp); have d6 := hSw.cell q6 (by simp); have d7 := hSw.cell q7 (by simp); have d8 := hSw.cell q8 (by simp); have d9 := hSw.cell q9 (by simp); have d10 := hSw.cell q10 (by simp); have d11 := hSw.cell q11 (by simp); have d12 := hSw.cell q12 (by simp); have d13 := hSw.cell q13 (by simp); have d14 := hSw.cell q14 (by simp); have d15 := hSw.cell q15 (by simp); go_simp; try with_reducible rfl)
      try simp only [Act.put, List.setIfInBounds_toArray, List.set_cons_zero, List.set_cons_succ]
      refine wpAnyH_oneD 8 (by kernel_rfl) rfl (fun K hK => ?_)
      go_simp
      refine (addr14_any hi lo ((m : Int) + 1) pp X1).mono ?_
      rintro e X2 ⟨rfl, hX2⟩
      have hS2 : W2.grownBy X2 none := grown_then hS1 hX2
      clear hX2
      refine hK _ _ hS2 ?_
      clear hK K
      try simp only [Act.put, List.setIfInBounds_toArray, List.set_cons_zero, List.set_cons_succ]
      refine wpAnyH_oneD 9 (by kernel_rfl) rfl (fun K hK => ?_)
      go_simp
      refine (as16_any hi lo pp X2 h0 h1 l0 l1).mono ?_
      rintro e X3 ⟨rfl, hX3⟩
      have hS3 : W2.grownBy X3 none := grown_then hS2 hX3
      clear hX3
      rw [Hwant.out]
      refine hK _ _ hS3 ?_
      clear hK K
      try simp only [Act.put, List.setIfInBounds_toArray, List.set_cons_zero, List.set_cons_succ]
      refine wpAnyH_takeD 11 (v := ?va11) rfl (by kernel_rfl) (by kernel_rfl) (by kernel_rfl) (fun _ _ _ h => absurd h.1 (by simp)) (by rfl) hS3 ?ya11 ?ra11
      case ya11 => (intro wz hSw; (try dsimp only at hSw); go_simp; rw [eq28 v0 v1 v2 v3 v4 v5 v6 v7 v8 v9 v10 v11 v12 v13 v14 v15 wz]; simp only [Result.andThen_ok, Bool.not_true]; try with_reducible rfl)
      try simp only [Act.put, List.setIfInBounds_toArray, List.set_cons_zero, List.set_cons_succ]
      refine wpAnyH_oneD 12 (by kernel_rfl) rfl (fun K hK => ?_)
      go_simp
      refine hK _ _ hS3 ?_
      clear hK K
      try simp only [Act.put, List.setIfInBounds_toArray, List.set_cons_zero, List.set_cons_succ]
      refine wpAnyH_done (by kernel_rfl) ⟨rfl, ?_⟩ _
      obtain ⟨f0, f1⟩ := row2 (row_grown y1 hS3)
      have s4' := hS3.cell s4 (by simp)
      have s5' := hS3.cell s5 (by simp)
      have kP' := hS3.cell kP (by simp)
      replace gw := grown_then gw hS3
      obtain ⟨nz, hnz⟩ : ∃ nz, nz = min la.length 63 := ⟨_, rfl⟩
      have Hnz : Hid (nz = min la.length 63) := hnz
      clear hS0 hS1 hS2 hS3 s0 s1 s2 s3 s4 s5 s6 kP y1 y2 z23r q0 q1 q2 q3 q4 q5 q6 q7 q8 q9 q10 q11 q12 q13 q14 q15 n1 hnz
      have n2 : (P px != P px) = false := by simp
      have n3 : IntKind.i64.wrap (pr : Int) = (pr : Int) := by simp [IntKind.wrap, IntKind.bits, IntKind.signed]; omega
      have n4 : (px : Int) < (np : Int) := by omega
      have n5 : ¬ (np : Int) = 0 := by omega
      have n6 : ((np : Int) == 0) = false := by simp; omega
      go_upto_region 24 with fail
      go_quiet (fail)
      go_upto_region 26 with fail
      have gD := grown_drawn X3 none nq
      obtain ⟨X4, hX4⟩ : ∃ X4, X4 = X3.drewN nq := ⟨_, rfl⟩
      rw [← hX4] at gD ⊢
      clear hX4
      replace f0 := gD.cell f0 (by simp)
      replace f1 := gD.cell f1 (by simp)
      replace s4' := gD.cell s4' (by simp)
      replace gw := grown_then gw gD
      clear gD s5' kP' n2 n3 n4 n5 n6 t1
      have hasn : Calls Ybaf.prog 16 #[.agg #[.int .u16 (pr : Int), .slice pa la.length ca]] X4 fun e w' => e = .returned (.slice pa nz ca) ∧ X4.grownBy w' none := (asns_any (pr : Int) pa la.length ca X4 e4 hp2).mono (by rintro e w' ⟨rfl, rfl⟩; exact ⟨by rw [Hnz.out], World.grownBy_alloc _ _ none⟩)
      have Hasn : Hid _ := hasn
      clear hasn
      have hn63 : nz ≤ 63 := by have := Hnz.out; omega
      rcases HPath.out with ⟨hl, hq⟩ | ⟨gS, oS, gA, oA, hl, hq, m0, m1, m2⟩
      · injection hq with hq1 hq2 _
        subst hq1 hq2
        have hz : nz = 0 := by
          have h1 := congrArg List.length hl
          rw [List.length_take, List.length_nil] at h1
          have := Hnz.out
          omega
        have z1 : ((nz : Int) == 0) = true := by simp [hz]
        clear hl hz HPath
        go_upto_region 27 with (go_at_call 16; go_must (refine Calls.mono Hasn.out ?_; rintro e X5 ⟨rfl, g5⟩))
        have s4 := g5.cell s4' (by simp)
        replace gw := grown_then gw g5
        clear g5 s4' f0 f1
        go_wp2_with fail
        go_roundw
        case rel => exact ⟨k + 1, by omega, by go_num, gw⟩
        case measure => simp [intOf]; omega
      · injection hq with hq1 hq2 _
        subst hq1 hq2
        have hlz : (la.take 63).length = nz := by rw [List.length_take]; have := Hnz.out; omega
        rw [hlz] at m1 hl
        have z1 : ((nz : Int) == 0) = false := by simp; omega
        obtain ⟨x0, hx0⟩ : ∃ x0, (la.take 63)[0]? = some x0 := ⟨(la.take 63)[0]'(by rw [List.length_take]; have := Hnz.out; omega), List.getElem?_eq_getElem (by rw [List.length_take]; have := Hnz.out; omega)⟩
        have htk : ∀ (j : Nat) (x : Int), (la.take 63)[j]? = some x → la[j]? = some x := by
          intro j x hj
          rw [List.getElem?_take] at hj
          split at hj
          · exact hj
          · cases hj
        obtain ⟨ba, oa, rfl, _⟩ := Hc.out 0 x0 (htk 0 x0 hx0)
        have Hb : Hid (∀ i x, (la.take 63)[i]? = some x → w.cell? ⟨ba, oa + i, none⟩ = some (.int .u32 x)) := by
          intro i x hx
          obtain ⟨ba', oa', h1, h2⟩ := Hc.out i x (htk i x hx)
          injection h1 with h1
          injection h1 with h3 h4 _
          subst h3 h4
          exact h2
        have Ha : Hid (∀ i x, (la.take 63)[i]? = some x → w.cell? ⟨gA, oA + i, none⟩ = some (.int .u32 x)) := m2
        have Hlz : Hid ((la.take 63).length = nz) := hlz
        clear hlz HPath m2 htk hx0
        go_upto_region 27 with (go_at_call 16; go_must (refine Calls.mono Hasn.out ?_; rintro e X5 ⟨rfl, g5⟩))
        have s4 := g5.cell s4' (by simp)
        replace gw := grown_then gw g5
        replace m0 := gw.cell m0 (by simp)
        replace m1 := gw.cell m1 (by simp)
        have heq := equal_any gA oA nz ba oa ca nz (la.take 63) X5 Hlz.out hn63 (fun i x hx => gw.cell (Ha.out i x hx) (by simp)) (fun i x hx => gw.cell (Hb.out i x hx) (by simp))
        have Heq : Hid _ := heq
        clear heq g5 s4' f0 f1
        go_wp2_with (go_at_call 17; go_must (refine Calls.mono Heq.out ?_; rintro e X6 ⟨rfl, kq, rfl⟩))
        go_roundw
        case rel => exact ⟨k + 1, by omega, by go_num, grown_then gw (grown_drawn X5 none kq)⟩
        case measure => simp [intOf]; omega
    · obtain rfl : k = E.length := by omega
      go_wp2_with fail
      exact gw
end Go.Proofs.YbulkaigaFmt
