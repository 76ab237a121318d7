import Derived.Test.YbulkaigaFmtCut0
import Derived.Test.YbulkaigaFmtCut1
import Derived.Test.YbulkaigaFmtCut2
import Derived.Test.YbulkaigaFmtCut3
namespace Go.Proofs.YbulkaigaFmt
open Go.RowKit Go.Extern.Stop Go.Stop Go.Extern

set_option maxRecDepth 100000 in
set_option maxHeartbeats 4000000 in
theorem cut_any (F : Interp) (a4 a6 : Go.Addr) (ap : Bool) (sel seq bits cut : Int) (f : Nat → Int) (p : Option Go.Addr) (cE : Nat) (E : List (Nat × List Int)) (w : World) (hF : F.answers w.tape) (hM : Marks w a4 a6) (hs0 : 0 ≤ sel) (hs1 : sel ≤ 255) (hq0 : 0 ≤ seq) (hq1 : seq ≤ 4294967295) (hb0 : 0 ≤ bits) (hb1 : bits ≤ 255) (hc0 : 0 ≤ cut) (hc1 : cut ≤ 65535) (hf : ∀ i, 0 ≤ f i ∧ f i ≤ 255) (hE : EntMem w p E) (hEb : E.length ≤ 9223372036854775807) :
    Calls Ybaf.prog 6 #[.int .u8 sel, .bool ap, .int .u32 seq, .int .u8 bits, .agg #[.int .u8 (f 0), .int .u8 (f 1), .int .u8 (f 2), .int .u8 (f 3), .int .u8 (f 4), .int .u8 (f 5), .int .u8 (f 6), .int .u8 (f 7), .int .u8 (f 8), .int .u8 (f 9), .int .u8 (f 10), .int .u8 (f 11), .int .u8 (f 12), .int .u8 (f 13), .int .u8 (f 14), .int .u8 (f 15)], .slice p E.length cE, .int .u16 cut] w fun e w' => e = .returned (.bool true) ∧ Below w.heap.size w w' := by
  by_cases hEl : E.length ≤ 300
  · have h4 : sel % 4 = 0 ∨ sel % 4 = 1 ∨ sel % 4 = 2 ∨ sel % 4 = 3 := by omega
    rcases h4 with h | h | h | h
    · exact cut_0 F a4 a6 ap sel seq bits cut f p cE E w hF hM hs0 hs1 h hq0 hq1 hb0 hb1 hc0 hc1 hf hE hEl
    · exact cut_1 F a4 a6 ap sel seq bits cut f p cE E w hF hM hs0 hs1 h hq0 hq1 hb0 hb1 hc0 hc1 hf hE hEl
    · exact cut_2 F a4 a6 ap sel seq bits cut f p cE E w hF hM hs0 hs1 h hq0 hq1 hb0 hb1 hc0 hc1 hf hE hEl
    · exact cut_3 F a4 a6 ap sel seq bits cut f p cE E w hF hM hs0 hs1 h hq0 hq1 hb0 hb1 hc0 hc1 hf hE hEl
  · have t2 : (300 : Int) < (E.length : Int) := by omega
    go_enter Ybaf.func6, Ybaf.ntmps6
    go_wp2_with fail
    go_ret
    exact ⟨rfl, below_of_grown (Nat.le_refl _) (World.grownBy_alloc w _ none)⟩
end Go.Proofs.YbulkaigaFmt
