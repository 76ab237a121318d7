import Derived.Test.YbulkaigaFmtRoutes0
import Derived.Test.YbulkaigaFmtRoutes1
import Derived.Test.YbulkaigaFmtRoutes2
import Derived.Test.YbulkaigaFmtRoutes3
import Derived.Test.YbulkaigaFmtRoutes4
import Derived.Test.YbulkaigaFmtRoutes5
namespace Go.Proofs.YbulkaigaFmt
open Go.RowKit Go.Extern.Stop Go.Stop Go.Extern

set_option maxRecDepth 100000 in
set_option maxHeartbeats 4000000 in
theorem routes_any (F : Interp) (a4 a6 : Go.Addr) (ap : Bool) (sel seq bits : Int) (f : Nat → Int) (p pa : Option Go.Addr) (cE ca : Nat) (E : List (Nat × List Int)) (l : List Int) (w : World) (hF : F.answers w.tape) (hM : Marks w a4 a6) (hs0 : 0 ≤ sel) (hs1 : sel ≤ 255) (hq0 : 0 ≤ seq) (hq1 : seq ≤ 4294967295) (hb0 : 0 ≤ bits) (hb1 : bits ≤ 255) (hf : ∀ i, 0 ≤ f i ∧ f i ≤ 255) (hE : EntMem w p E) (hEm : E.length ≤ 9223372036854775807) (hlm : l.length ≤ 9223372036854775807) (hlc : l.length ≤ ca) (hnil : pa = none → ca = 0)
    (hl : ∀ j x, l[j]? = some x → ∃ ba oa, pa = some ⟨ba, oa, none⟩ ∧ w.cell? ⟨ba, oa + j, none⟩ = some (.int .u32 x)) :
    Calls Ybaf.prog 5 #[.int .u8 sel, .bool ap, .int .u32 seq, .int .u8 bits, .agg #[.int .u8 (f 0), .int .u8 (f 1), .int .u8 (f 2), .int .u8 (f 3), .int .u8 (f 4), .int .u8 (f 5), .int .u8 (f 6), .int .u8 (f 7), .int .u8 (f 8), .int .u8 (f 9), .int .u8 (f 10), .int .u8 (f 11), .int .u8 (f 12), .int .u8 (f 13), .int .u8 (f 14), .int .u8 (f 15)], .slice p E.length cE, .slice pa l.length ca] w fun e w' => e = .returned (.bool true) ∧ Below w.heap.size w w' := by
  by_cases hEl : E.length ≤ 300
  · by_cases hll : l.length ≤ 1024
    · have h6 : sel % 6 = 0 ∨ sel % 6 = 1 ∨ sel % 6 = 2 ∨ sel % 6 = 3 ∨ sel % 6 = 4 ∨ sel % 6 = 5 := by omega
      rcases h6 with h | h | h | h | h | h
      · exact routes_0 F a4 a6 ap sel seq bits f p pa cE ca E l w hF hM hs0 hs1 h hq0 hq1 hb0 hb1 hf hE hEl hll hlc hnil hl
      · exact routes_1 F a4 a6 ap sel seq bits f p pa cE ca E l w hF hM hs0 hs1 h hq0 hq1 hb0 hb1 hf hE hEl hll hlc hnil hl
      · exact routes_2 F a4 a6 ap sel seq bits f p pa cE ca E l w hF hM hs0 hs1 h hq0 hq1 hb0 hb1 hf hE hEl hll hlc hnil hl
      · exact routes_3 F a4 a6 ap sel seq bits f p pa cE ca E l w hF hM hs0 hs1 h hq0 hq1 hb0 hb1 hf hE hEl hll hlc hnil hl
      · exact routes_4 ap sel seq bits f p pa cE ca E l w hs0 hs1 h hq0 hq1 hb0 hb1 hE hEl hll hlc hnil hl
      · exact routes_5 ap sel seq bits f p pa cE ca E l w hs0 hs1 h hq0 hq1 hb0 hb1 hE hEl hll hlc hnil hl
    · have t2 : ¬ (300 : Int) < (E.length : Int) := by omega
      have t3 : (1024 : Int) < (l.length : Int) := by omega
      clear hl hE hF hM
      go_enter Ybaf.func5, Ybaf.ntmps5
      go_wp2_with fail
      go_ret
      exact ⟨rfl, below_of_grown (Nat.le_refl _) (World.grownBy_alloc w _ none)⟩
  · have t2 : (300 : Int) < (E.length : Int) := by omega
    clear hl hE hF hM
    go_enter Ybaf.func5, Ybaf.ntmps5
    go_wp2_with fail
    go_ret
    exact ⟨rfl, below_of_grown (Nat.le_refl _) (World.grownBy_alloc w _ none)⟩
end Go.Proofs.YbulkaigaFmt
