import Derived.Test.YbulkaigaFmtEntries
import Derived.Test.YbulkaigaFmtEntriesAdd
namespace Go.Proofs.YbulkaigaFmt
open Go.RowKit Go.Extern.Stop Go.Stop Go.Extern

theorem entries_any (ap : Bool) (F : Interp) (base bV R : Nat) (s : St) (V : Value) (nR : Nat) (xR : List Value) (g o n c gp op np cp : Nat) (P : Nat → Int) (es : List Ent) (hi lo bp : Int) (pp : Option Go.Addr) (w : World)
    (hF : F.answers w.tape) (hRib : Rib w base bV R s V nR xR) (hQ : s.nQ = 0) (hxQ : s.xQ = []) (hnA : s.nA ≤ 500000) (hnS : s.nS ≤ 500000) (hnR : nR ≤ 500000) (hes : es.length ≤ 300)
    (hg : g < w.heap.size) (hgo : Out R s g) (hgV : V.ownBlock ≠ some g) (hL : Lies w g o (be16 (es.length : Int) ++ encAll ap es)) (hn : n ≤ 2 + (encAll ap es).length) (hnc : n ≤ c)
    (h21 : w.cell? ⟨R, 21, none⟩ = some (.slice (some ⟨gp, op, none⟩) np cp)) (hgp : gp < w.heap.size) (hgpo : Out R s gp) (hgpV : V.ownBlock ≠ some gp) (hP : ∀ i, i < np → w.cell? ⟨gp, op + i, none⟩ = some (.int .u32 (P i)))
    (he : ∀ e ∈ es, e.peer < np ∧ e.peer ≤ 65535 ∧ e.asns.length ≤ 63 ∧ ∀ x ∈ e.asns, 0 ≤ x ∧ x ≤ 4294967295) :
    Calls Ybaf.prog 26 #[.pointer (some ⟨R, 0, none⟩), .slice (some ⟨g, o, none⟩) n c, .agg #[.int .u64 hi, .int .u64 lo, .pointer pp, .int .u8 bp], .bool ap] w fun e w' => ∃ s' V', Held w w' R s V s' V' ∧
      ((n < 2 + (encAll ap es).length ∧ ∃ k, e = .returned (.iface 93 (.pointer (some ⟨k, 0, none⟩)))) ∨
       (n = 2 + (encAll ap es).length ∧ e = .returned .nilIface ∧ ∃ xs, Rib w' base bV R s' V' (nR + es.length) (xR ++ xs) ∧ Done w' R s' V' [.int .u64 hi, .int .u64 lo, .pointer pp, .int .u8 bp] P es xs)) := by
  cases ap
  · exact entries_false F base bV R s V nR xR g o n c gp op np cp P es hi lo bp pp w hF hRib hQ hxQ hnA hnS hnR hes hg hgo hgV hL hn hnc h21 hgp hgpo hgpV hP he
  · exact entries_true F base bV R s V nR xR g o n c gp op np cp P es hi lo bp pp w hF hRib hQ hxQ hnA hnS hnR hes hg hgo hgV hL hn hnc h21 hgp hgpo hgpV hP he

/-- The parts of a prefix that is read. -/
def pMark (a4 a6 : Go.Addr) (afi : Int) : Go.Addr := if afi = 1 then a4 else a6
def pHi (afi : Int) (f : Nat → Int) (m : Nat) : Int := if afi = 1 then bits .and .u64 0 (mhi (m + 96)) else bits .and .u64 (hi16 f) (mhi m)
def pLo (afi : Int) (f : Nat → Int) (m : Nat) : Int := if afi = 1 then bits .and .u64 (low4 f) (mlo (m + 96)) else bits .and .u64 (lo16 f) (mlo m)
def pMax (afi : Int) : Nat := if afi = 1 then 32 else 128

theorem readPrefix_any (F : Interp) (a4 a6 : Go.Addr) (g o n c m k : Nat) (afi : Int) (l rest : List Int) (w : World) (hF : F.answers w.tape) (hM : Marks w a4 a6) (ha : afi = 1 ∨ afi = 2) (hg : g < w.heap.size) (hL : Lies w g o ([(m : Int)] ++ (l ++ rest))) (hm : m ≤ pMax afi)
    (hk : k = (m + 7) / 8) (hl : l.length = k) (hr : ∀ x ∈ l, 0 ≤ x ∧ x ≤ 255) (hN : n ≤ 1000000) (hc : 1 + k < c) :
    Calls Ybaf.prog 25 #[.slice (some ⟨g, o, none⟩) n c, .int .u16 afi] w fun e w' => w.grownBy w' none ∧
      ((n < 1 + k ∧ ∃ j, e = .returned (.tuple #[zeroPfx, .slice none 0 0, .iface 93 (.pointer (some ⟨j, 0, none⟩))])) ∨
       (1 + k ≤ n ∧ e = .returned (.tuple #[pfxVal (pMark a4 a6 afi) (pHi afi (padded l) m) (pLo afi (padded l) m) m, .slice (some ⟨g, o + (1 + k), none⟩) (n - (1 + k)) (c - (1 + k)), .nilIface]))) := by
  have hb : w.cell? ⟨g, o, none⟩ = some (.int .u8 m) := hL 0 _ rfl
  have hLl : Lies w g (o + 1) l := hL.right.left
  by_cases hn0 : n = 0
  · subst hn0
    refine (readPrefix_none _ c afi w).mono ?_
    rintro e w' ⟨⟨j, rfl⟩, hg⟩
    exact ⟨hg, .inl ⟨by omega, j, rfl⟩⟩
  · by_cases hs : n - 1 < (m + 7) / 8
    · refine (readPrefix_short F g o n c m afi w hF hg (by omega) hb ?_ hs).mono ?_
      · unfold pMax at hm
        rcases ha with rfl | rfl <;> simpa using hm
      · rintro e w' ⟨⟨j, rfl⟩, hg⟩
        exact ⟨hg, .inl ⟨by omega, j, rfl⟩⟩
    · rcases ha with rfl | rfl
      · refine (readPrefix_ok4 a4 a6 g o n c m k l w hM hg hb (by simpa [pMax] using hm) hk hl hr hLl (by omega) hN hc).mono ?_
        rintro e w' ⟨rfl, hg⟩
        exact ⟨hg, .inr ⟨by omega, by simp [pMark, pHi, pLo, pfx4]⟩⟩
      · refine (readPrefix_ok6 a4 a6 g o n c m k l w hM hg hb (by simpa [pMax] using hm) hk hl hr hLl (by omega) hN hc).mono ?_
        rintro e w' ⟨rfl, hg⟩
        exact ⟨hg, .inr ⟨by omega, by simp [pMark, pHi, pLo, pfx6]⟩⟩
end Go.Proofs.YbulkaigaFmt
