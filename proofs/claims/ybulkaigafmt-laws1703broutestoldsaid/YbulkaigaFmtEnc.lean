import Derived.Test.YbulkaigaFmtRoutes
namespace Go.Proofs.YbulkaigaFmt
open Go.RowKit

/-- An entry: which peer, and the numbers of its path. -/
structure Ent where
  peer : Nat
  asns : List Int

def attrBytes (l : List Int) : List Int := if l.length = 0 then [] else [64, 2, 2 + 4 * (l.length : Int), 2, (l.length : Int)] ++ l.flatMap be32
def attrLen (l : List Int) : Nat := if l.length = 0 then 0 else 5 + 4 * l.length
def headLen (ap : Bool) : Nat := if ap then 12 else 8
def encEnt (ap : Bool) (e : Ent) : List Int := (be16 e.peer ++ ([0, 0, 0, 0] ++ (if ap then [0, 0, 0, 0] else []))) ++ (be16 (attrLen e.asns : Int) ++ attrBytes e.asns)
def encAll (ap : Bool) (es : List Ent) : List Int := es.flatMap (encEnt ap)

theorem attrBytes_length (l : List Int) : (attrBytes l).length = attrLen l := by
  unfold attrBytes attrLen
  split
  · rfl
  · simp only [List.length_append, flat32_length, List.length_cons, List.length_nil]
theorem attrLen_le {l : List Int} (h : l.length ≤ 63) : attrLen l ≤ 257 := by unfold attrLen; split <;> omega
theorem encEnt_length (ap : Bool) (e : Ent) : (encEnt ap e).length = headLen ap + attrLen e.asns := by
  cases ap <;> simp [encEnt, be16, attrBytes_length, headLen] <;> omega
theorem encAll_length_le (ap : Bool) (es : List Ent) (h : ∀ e ∈ es, e.asns.length ≤ 63) : (encAll ap es).length ≤ 269 * es.length := by
  induction es with
  | nil => simp [encAll]
  | cons e t ih =>
    have h1 := ih (fun x hx => h x (by simp [hx]))
    have h2 := attrLen_le (h e (by simp))
    have h3 : headLen ap ≤ 12 := by cases ap <;> simp [headLen]
    simp only [encAll, List.flatMap_cons, List.length_append, encEnt_length, List.length_cons] at h1 ⊢
    omega

/-- Where the k-th entry begins. -/
def offTo (ap : Bool) (es : List Ent) (k : Nat) : Nat := 2 + (encAll ap (es.take k)).length
theorem offTo_zero (ap : Bool) (es : List Ent) : offTo ap es 0 = 2 := rfl
theorem offTo_succ {ap : Bool} {es : List Ent} {k : Nat} {e : Ent} (h : es[k]? = some e) : offTo ap es (k + 1) = offTo ap es k + (headLen ap + attrLen e.asns) := by
  unfold offTo encAll
  rw [List.take_add_one, h]
  simp [encEnt_length]
  omega
theorem offTo_all (ap : Bool) (es : List Ent) : offTo ap es es.length = 2 + (encAll ap es).length := by simp [offTo]
theorem encAll_split (ap : Bool) (es : List Ent) (k : Nat) : encAll ap es = encAll ap (es.take k) ++ encAll ap (es.drop k) := by
  unfold encAll
  rw [← List.flatMap_append, List.take_append_drop]
theorem offTo_le (ap : Bool) (es : List Ent) (k : Nat) : offTo ap es k ≤ 2 + (encAll ap es).length := by
  have := congrArg List.length (encAll_split ap es k)
  simp only [List.length_append] at this
  unfold offTo
  omega

theorem drop_cons {α : Type} {l : List α} {k : Nat} {e : α} (h : l[k]? = some e) : l.drop k = e :: l.drop (k + 1) := by
  obtain ⟨hk, rfl⟩ := List.getElem?_eq_some_iff.mp h
  exact List.drop_eq_getElem_cons hk

theorem Lies.entry {w : World} {g o : Nat} {ap : Bool} {es : List Ent} {x : Int} (h : Lies w g o (be16 x ++ encAll ap es)) {k : Nat} {e : Ent} (he : es[k]? = some e) :
    Lies w g (o + offTo ap es k) (encEnt ap e) := by
  have h1 := h.right
  rw [encAll_split ap es k] at h1
  have h2 := h1.right
  rw [show o + (be16 x).length + (encAll ap (es.take k)).length = o + offTo ap es k by simp [offTo, be16]; omega] at h2
  rw [drop_cons he] at h2
  simp only [encAll, List.flatMap_cons] at h2
  exact h2.left

theorem Lies.fields {w : World} {g q : Nat} {ap : Bool} {e : Ent} (h : Lies w g q (encEnt ap e)) :
    w.cell? ⟨g, q, none⟩ = some (.int .u8 ((e.peer : Int) / 256)) ∧ w.cell? ⟨g, q + 1, none⟩ = some (.int .u8 ((e.peer : Int) % 256)) ∧
    w.cell? ⟨g, q + (headLen ap - 2), none⟩ = some (.int .u8 ((attrLen e.asns : Int) / 256)) ∧ w.cell? ⟨g, q + (headLen ap - 2) + 1, none⟩ = some (.int .u8 ((attrLen e.asns : Int) % 256)) ∧
    Lies w g (q + headLen ap) (attrBytes e.asns) := by
  have hl := h.left
  have hr := h.right
  have e1 : (be16 (e.peer : Int) ++ ([0, 0, 0, 0] ++ (if ap then [0, 0, 0, 0] else []))).length = headLen ap - 2 := by cases ap <;> rfl
  rw [e1] at hr
  have hs := hr.right
  refine ⟨hl 0 _ rfl, hl 1 _ rfl, hr 0 _ rfl, hr 1 _ rfl, ?_⟩
  rw [show q + (headLen ap - 2) + (be16 (attrLen e.asns : Int)).length = q + headLen ap by cases ap <;> rfl] at hs
  exact hs

theorem value16 (x : Int) : x / 256 * 256 + x % 256 = x := by omega

/-- A cell that will stay as it is. -/
def Fixed (w : World) (R : Nat) (s : St) (V : Value) (p : Go.Addr) (v : Value) : Prop := w.cell? p = some v ∧ Still R s p ∧ V.ownBlock ≠ some p.block
theorem Fixed.held {w w' : World} {R : Nat} {s s' : St} {V V' : Value} {p : Go.Addr} {v : Value} (h : Fixed w R s V p v) (k : Held w w' R s V s' V') : Fixed w' R s' V' p v :=
  let a := k.still p (World.block_lt_of_cell? w p h.1) h.2.1 h.2.2
  ⟨a.1.trans h.1, a.2⟩

/-- The value of a path, and the numbers behind it. -/
def PathOK (w : World) (R : Nat) (s : St) (V : Value) (path : Value) (l : List Int) : Prop :=
  (l = [] ∧ path = .slice none 0 0) ∨ ∃ gS oS gA oA, 0 < l.length ∧ path = .slice (some ⟨gS, oS, none⟩) 1 1 ∧ Fixed w R s V ⟨gS, oS, none⟩ (.int .u8 2) ∧ Fixed w R s V ⟨gS, oS + 1, none⟩ (.slice (some ⟨gA, oA, none⟩) l.length l.length) ∧
    ∀ i x, l[i]? = some x → Fixed w R s V ⟨gA, oA + i, none⟩ (.int .u32 x)
theorem PathOK.held {w w' : World} {R : Nat} {s s' : St} {V V' : Value} {path : Value} {l : List Int} (h : PathOK w R s V path l) (k : Held w w' R s V s' V') : PathOK w' R s' V' path l := by
  rcases h with h | ⟨gS, oS, gA, oA, h0, h1, h2, h3, h4⟩
  · exact .inl h
  · exact .inr ⟨gS, oS, gA, oA, h0, h1, h2.held k, h3.held k, fun i x hx => (h4 i x hx).held k⟩

/-- The routes that stand behind some entries. -/
def Done (w : World) (R : Nat) (s : St) (V : Value) (pv : List Value) (P : Nat → Int) (es : List Ent) (xs : List Value) : Prop :=
  xs.length = 7 * es.length ∧ ∀ i e, es[i]? = some e → ∃ path, (xs.drop (7 * i)).take 7 = pv ++ [path, .int .u32 (P e.peer), .int .u32 0] ∧ PathOK w R s V path e.asns
theorem Done.held {w w' : World} {R : Nat} {s s' : St} {V V' : Value} {pv : List Value} {P : Nat → Int} {es : List Ent} {xs : List Value} (h : Done w R s V pv P es xs) (k : Held w w' R s V s' V') : Done w' R s' V' pv P es xs := by
  refine ⟨h.1, fun i e he => ?_⟩
  obtain ⟨path, h1, h2⟩ := h.2 i e he
  exact ⟨path, h1, h2.held k⟩
theorem Done.nil (w : World) (R : Nat) (s : St) (V : Value) (pv : List Value) (P : Nat → Int) : Done w R s V pv P [] [] := ⟨rfl, fun i e he => by simp at he⟩
theorem Done.snoc {w : World} {R : Nat} {s : St} {V : Value} {pv : List Value} {P : Nat → Int} {es : List Ent} {xs : List Value} (h : Done w R s V pv P es xs) (hp : pv.length = 4) {e : Ent} {path : Value} (hpath : PathOK w R s V path e.asns) :
    Done w R s V pv P (es ++ [e]) (xs ++ (pv ++ [path, .int .u32 (P e.peer), .int .u32 0])) := by
  refine ⟨by simp [h.1, hp]; omega, fun i e' he => ?_⟩
  by_cases hi : i < es.length
  · rw [List.getElem?_append_left hi] at he
    obtain ⟨p, h1, h2⟩ := h.2 i e' he
    refine ⟨p, ?_, h2⟩
    rw [List.drop_append_of_le_length (by rw [h.1]; omega), List.take_append_of_le_length (by rw [List.length_drop, h.1]; omega)]
    exact h1
  · rw [List.getElem?_append_right (by omega)] at he
    have hi0 : i - es.length = 0 := by
      have := (List.getElem?_eq_some_iff.mp he).1
      simp at this
      omega
    rw [hi0] at he
    simp only [List.getElem?_cons_zero, Option.some.injEq] at he
    subst he
    refine ⟨path, ?_, hpath⟩
    have hi2 : i = es.length := by omega
    subst hi2
    rw [List.drop_append, List.drop_of_length_le (by rw [h.1]; omega), h.1]
    simp [hp, List.take_of_length_le]

/-- The path that the builder has just handed out. -/
theorem path_ok {w : World} {base R : Nat} {s : St} {V : Value} {l : List Int} {gA cA gS cS : Nat} {Q' : Value} (hl : 0 < l.length) (h : Bld w base R (s.path l gA cA gS cS Q')) (hV : ∀ k, V.ownBlock = some k → Out R (s.path l gA cA gS cS Q') k) :
    PathOK w R (s.path l gA cA gS cS Q') V (.slice (some ⟨gS, s.nS * 2, none⟩) 1 1) l := by
  have hS : (s.path l gA cA gS cS Q').S.ownBlock = some gS := rfl
  have hA : (s.path l gA cA gS cS Q').A.ownBlock = some gA := rfl
  have hRA := (h.ltA hA).1
  have hRS := (h.ltS hS).1
  have lxS := h.oS.1
  have lxA := h.oA.1
  have hxS : s.xS.length = s.nS * 2 := by
    have : (s.xS ++ [Value.int .u8 2, .slice (some ⟨gA, s.nA, none⟩) l.length l.length]).length = (s.nS + 1) * 2 := lxS
    simp at this
    omega
  have hxA : s.xA.length = s.nA := by
    have : (s.xA ++ l.map (Value.int .u32)).length = (s.nA + l.length) * 1 := lxA
    simp at this
    omega
  have stS : ∀ j, j < (s.nS + 1) * 2 → Still R (s.path l gA cA gS cS Q') ⟨gS, j, none⟩ := by
    intro j hj
    refine ⟨by simp only; omega, h.SQ gS hS, fun e => absurd hS (h.AS gS e), fun _ => hj⟩
  have stA : ∀ j, j < s.nA + l.length → Still R (s.path l gA cA gS cS Q') ⟨gA, j, none⟩ := by
    intro j hj
    refine ⟨by simp only; omega, h.AQ gA hA, fun _ => hj, fun e => absurd e (h.AS gA hA)⟩
  have vS : V.ownBlock ≠ some gS := fun e => (hV gS e).2.2.1 hS
  have vA : V.ownBlock ≠ some gA := fun e => (hV gA e).2.1 hA
  refine .inr ⟨gS, s.nS * 2, gA, s.nA, hl, rfl, ⟨?_, stS _ (by omega), vS⟩, ⟨?_, stS _ (by omega), vS⟩, fun i x hx => ⟨?_, stA _ ?_, vA⟩⟩
  · have := h.oS.cellAt (s.nS * 2) (show s.nS * 2 < (s.nS + 1) * 2 by omega)
    rw [show (s.path l gA cA gS cS Q').xS = s.xS ++ [Value.int .u8 2, .slice (some ⟨gA, s.nA, none⟩) l.length l.length] from rfl, List.getElem?_append_right (by omega), hxS] at this
    simpa using this
  · have := h.oS.cellAt (s.nS * 2 + 1) (show s.nS * 2 + 1 < (s.nS + 1) * 2 by omega)
    rw [show (s.path l gA cA gS cS Q').xS = s.xS ++ [Value.int .u8 2, .slice (some ⟨gA, s.nA, none⟩) l.length l.length] from rfl, List.getElem?_append_right (by omega), hxS] at this
    simpa using this
  · have hi := (List.getElem?_eq_some_iff.mp hx).1
    have := h.oA.cellAt (s.nA + i) (show s.nA + i < (s.nA + l.length) * 1 by omega)
    rw [show (s.path l gA cA gS cS Q').xA = s.xA ++ l.map (Value.int .u32) from rfl, List.getElem?_append_right (by omega), hxA] at this
    simpa [hx] using this
  · have hi := (List.getElem?_eq_some_iff.mp hx).1
    omega
end Go.Proofs.YbulkaigaFmt
