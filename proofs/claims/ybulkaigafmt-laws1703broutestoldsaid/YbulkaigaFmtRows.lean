/-
  NARROWER THAN 'FOR EVERY INPUT', by the rows' own cells (each row's printed sentence says how): LawS1703BRoutes: laid · LawS1703BCut: laid.
  DERIVED. THE GIVEN ROWS OF THIS SEAT. 6 by the template 'for every input the law returns true; each argument reads behind the call as it read before'; 0 by the template 'total and deterministic' (their statements: YbulkaigaFmtTotals.lean).
  GIVEN WITH THE SEED: the statements are not yours to turn. If you find one false, say at which input.
  Laid BY PROGRAM, IN A SANDBOX (cutbox-rows.mjs): the forced cells as the released guide's own fill.sh prints them over the translation f5842f442f06a946… (all of the seat's roots in one cut). By AI agents, Wed Nov 11 2026. No macro, syntax, notation, axiom, sorry.
-/
import Derived.Test.YbulkaigaFmtChecked
import GoSem.Claim
import GoSem.ClaimJoined
import GoSem.ClaimMapViews
import Derived.JoinedTies
import Derived.KernelRfl
namespace Go.Proofs.YbulkaigaFmt
/- THE CELL 'sum', in the pinned program and in every row, IS THE sha256 OF THE DUMP (.gsa) THAT YbulkaigaFmtProg.lean LOADS. Nothing in Lean hashes anything: it is a label: what it is worth is what the hold of that sum in a sandbox is worth. -/
noncomputable def Ybaf.pinned : Pinned := { name := "ybulkaigafmt", sum := "f5842f442f06a9465e5b8141ff62791b70bb9682af285ad8dfb6a70bee6e25fa", checked := Ybaf.checked }
namespace Rows
def none {H : Type} : Left H := { results := [], args := [] }

/- WHAT THE LISTED PACKAGE-LEVEL VARIABLES READ AS WHEN THE CALL BEGINS. Each datum BY PROGRAM (the guide's laid-datum.mjs) off the statement by which the dump's own 'gosem.cut.vars' lays the variable. In a bare row this is a premise. The card (YbulkaigaFmtCards.lean) ties it to the program's text. -/
def laid_math_bits_deBruijn32tab {H : Type} : DataW H := .agg [.lit (.int .u8 0), .lit (.int .u8 1), .lit (.int .u8 28), .lit (.int .u8 2), .lit (.int .u8 29), .lit (.int .u8 14), .lit (.int .u8 24), .lit (.int .u8 3), .lit (.int .u8 30), .lit (.int .u8 22), .lit (.int .u8 20), .lit (.int .u8 15), .lit (.int .u8 25), .lit (.int .u8 17), .lit (.int .u8 4), .lit (.int .u8 8), .lit (.int .u8 31), .lit (.int .u8 27), .lit (.int .u8 13), .lit (.int .u8 23), .lit (.int .u8 21), .lit (.int .u8 19), .lit (.int .u8 16), .lit (.int .u8 7), .lit (.int .u8 26), .lit (.int .u8 12), .lit (.int .u8 18), .lit (.int .u8 6), .lit (.int .u8 11), .lit (.int .u8 5), .lit (.int .u8 10), .lit (.int .u8 9)]
def laid_math_bits_deBruijn64tab {H : Type} : DataW H := .agg [.lit (.int .u8 0), .lit (.int .u8 1), .lit (.int .u8 56), .lit (.int .u8 2), .lit (.int .u8 57), .lit (.int .u8 49), .lit (.int .u8 28), .lit (.int .u8 3), .lit (.int .u8 61), .lit (.int .u8 58), .lit (.int .u8 42), .lit (.int .u8 50), .lit (.int .u8 38), .lit (.int .u8 29), .lit (.int .u8 17), .lit (.int .u8 4), .lit (.int .u8 62), .lit (.int .u8 47), .lit (.int .u8 59), .lit (.int .u8 36), .lit (.int .u8 45), .lit (.int .u8 43), .lit (.int .u8 51), .lit (.int .u8 22), .lit (.int .u8 53), .lit (.int .u8 39), .lit (.int .u8 33), .lit (.int .u8 30), .lit (.int .u8 24), .lit (.int .u8 18), .lit (.int .u8 12), .lit (.int .u8 5), .lit (.int .u8 63), .lit (.int .u8 55), .lit (.int .u8 48), .lit (.int .u8 27), .lit (.int .u8 60), .lit (.int .u8 41), .lit (.int .u8 37), .lit (.int .u8 16), .lit (.int .u8 46), .lit (.int .u8 35), .lit (.int .u8 44), .lit (.int .u8 21), .lit (.int .u8 52), .lit (.int .u8 32), .lit (.int .u8 23), .lit (.int .u8 11), .lit (.int .u8 54), .lit (.int .u8 26), .lit (.int .u8 40), .lit (.int .u8 15), .lit (.int .u8 34), .lit (.int .u8 20), .lit (.int .u8 31), .lit (.int .u8 10), .lit (.int .u8 25), .lit (.int .u8 14), .lit (.int .u8 19), .lit (.int .u8 9), .lit (.int .u8 13), .lit (.int .u8 8), .lit (.int .u8 7), .lit (.int .u8 6)]
def laid_internal_strconv_uint64pow10 {H : Type} : DataW H := .agg [.lit (.int .u64 1), .lit (.int .u64 10), .lit (.int .u64 100), .lit (.int .u64 1000), .lit (.int .u64 10000), .lit (.int .u64 100000), .lit (.int .u64 1000000), .lit (.int .u64 10000000), .lit (.int .u64 100000000), .lit (.int .u64 1000000000), .lit (.int .u64 10000000000), .lit (.int .u64 100000000000), .lit (.int .u64 1000000000000), .lit (.int .u64 10000000000000), .lit (.int .u64 100000000000000), .lit (.int .u64 1000000000000000), .lit (.int .u64 10000000000000000), .lit (.int .u64 100000000000000000), .lit (.int .u64 1000000000000000000), .lit (.int .u64 10000000000000000000)]
def laid_net_netip_z4 {H : Type} : DataW H := .agg [.ptr (.agg [.lit (.bool false), .lit (.string [])])]
def laid_net_netip_z6noz {H : Type} : DataW H := .agg [.ptr (.agg [.lit (.bool true), .lit (.string [])])]
def laid_net_netip_z0 {H : Type} : DataW H := .agg [.nil]

/-- 'mrt.LawS1703AExact': WHATEVER THE INPUT: true; the input reads as it did. -/
def lawS1703AExactSpec : ChangeSpec := { name := "lawS1703AExact", fn := fun _ => fun
  | [d1, d2] => { results := [.lit (.bool true)], args := [d1, d2] }
  | _ => none }
def lawS1703AExactRow : OpenClaim := { program := "ybulkaigafmt", sum := "f5842f442f06a9465e5b8141ff62791b70bb9682af285ad8dfb6a70bee6e25fa", func := "example.com/pathwarden/pathwarden/pkg/mrt.LawS1703AExact", spec := "lawS1703AExact", stops := ["fmt.Sprintf", "fmt.errorf"], inPlace := ["fmt.errorf"], apart := false }
/-- NO THEOREM (fmt's text is open here; it may be false): for the released tool's asking of the row's closed facts alone. THE STATEMENT IS 'LawS1703AExactToldSaid' (YbulkaigaFmtCards.lean). -/
def LawS1703AExactFormAsk : Prop := lawS1703AExactRow.holds Ybaf.pinned (OpenSpec.ofChange lawS1703AExactSpec)

/-- ITS FALSE NEIGHBOUR: 'it returns false'. Refute it at one input. -/
def lawS1703AExactWrong : ChangeSpec := { name := "lawS1703AExact", fn := fun _ => fun
  | [d1, d2] => { results := [.lit (.bool false)], args := [d1, d2] }
  | _ => none }
def LawS1703AExactWrongFormAsk : Prop := lawS1703AExactRow.holds Ybaf.pinned (OpenSpec.ofChange lawS1703AExactWrong)

/-- 'mrt.LawS1703AFamilies': WHATEVER THE INPUT: true; the input reads as it did. -/
def lawS1703AFamiliesSpec : ChangeSpec := { name := "lawS1703AFamilies", fn := fun _ => fun
  | [d1, d2] => { results := [.lit (.bool true)], args := [d1, d2] }
  | _ => none }
def lawS1703AFamiliesRow : OpenClaim := { program := "ybulkaigafmt", sum := "f5842f442f06a9465e5b8141ff62791b70bb9682af285ad8dfb6a70bee6e25fa", func := "example.com/pathwarden/pathwarden/pkg/mrt.LawS1703AFamilies", spec := "lawS1703AFamilies", stops := ["fmt.Sprintf", "fmt.errorf"], inPlace := ["fmt.errorf"], apart := false }
/-- NO THEOREM (fmt's text is open here; it may be false): for the released tool's asking of the row's closed facts alone. THE STATEMENT IS 'LawS1703AFamiliesToldSaid' (YbulkaigaFmtCards.lean). -/
def LawS1703AFamiliesFormAsk : Prop := lawS1703AFamiliesRow.holds Ybaf.pinned (OpenSpec.ofChange lawS1703AFamiliesSpec)

/-- ITS FALSE NEIGHBOUR: 'it returns false'. Refute it at one input. -/
def lawS1703AFamiliesWrong : ChangeSpec := { name := "lawS1703AFamilies", fn := fun _ => fun
  | [d1, d2] => { results := [.lit (.bool false)], args := [d1, d2] }
  | _ => none }
def LawS1703AFamiliesWrongFormAsk : Prop := lawS1703AFamiliesRow.holds Ybaf.pinned (OpenSpec.ofChange lawS1703AFamiliesWrong)

/-- 'mrt.LawS1703BRoutes': WHATEVER THE INPUT: true; the input reads as it did. -/
def lawS1703BRoutesSpec : ChangeSpec := { name := "lawS1703BRoutes", fn := fun _ => fun
  | [d1, d2, d3, d4, d5, d6, d7] => { results := [.lit (.bool true)], args := [d1, d2, d3, d4, d5, d6, d7] }
  | _ => none }
def lawS1703BRoutesRow : OpenClaim := { program := "ybulkaigafmt", sum := "f5842f442f06a9465e5b8141ff62791b70bb9682af285ad8dfb6a70bee6e25fa", func := "example.com/pathwarden/pathwarden/pkg/mrt.LawS1703BRoutes", spec := "lawS1703BRoutes", stops := ["fmt.Sprintf", "fmt.errorf"], inPlace := ["fmt.errorf"], named := ["encoding/binary.BigEndian", "net/netip.z6noz", "net/netip.z4", "net/netip.z0", "internal/strconv.uint64pow10", "math/bits.deBruijn32tab", "math/bits.deBruijn64tab"], apart := false, laid := [("math/bits.deBruijn32tab", laid_math_bits_deBruijn32tab), ("math/bits.deBruijn64tab", laid_math_bits_deBruijn64tab), ("internal/strconv.uint64pow10", laid_internal_strconv_uint64pow10), ("net/netip.z4", laid_net_netip_z4), ("net/netip.z6noz", laid_net_netip_z6noz), ("net/netip.z0", laid_net_netip_z0)] }
/-- NO THEOREM (fmt's text is open here; it may be false): for the released tool's asking of the row's closed facts alone. THE STATEMENT IS 'LawS1703BRoutesToldSaid' (YbulkaigaFmtCards.lean). -/
def LawS1703BRoutesFormAsk : Prop := lawS1703BRoutesRow.holds Ybaf.pinned (OpenSpec.ofChange lawS1703BRoutesSpec)

/-- ITS FALSE NEIGHBOUR: 'it returns false'. Refute it at one input. -/
def lawS1703BRoutesWrong : ChangeSpec := { name := "lawS1703BRoutes", fn := fun _ => fun
  | [d1, d2, d3, d4, d5, d6, d7] => { results := [.lit (.bool false)], args := [d1, d2, d3, d4, d5, d6, d7] }
  | _ => none }
def LawS1703BRoutesWrongFormAsk : Prop := lawS1703BRoutesRow.holds Ybaf.pinned (OpenSpec.ofChange lawS1703BRoutesWrong)

/-- 'mrt.LawS1703BCut': WHATEVER THE INPUT: true; the input reads as it did. -/
def lawS1703BCutSpec : ChangeSpec := { name := "lawS1703BCut", fn := fun _ => fun
  | [d1, d2, d3, d4, d5, d6, d7] => { results := [.lit (.bool true)], args := [d1, d2, d3, d4, d5, d6, d7] }
  | _ => none }
def lawS1703BCutRow : OpenClaim := { program := "ybulkaigafmt", sum := "f5842f442f06a9465e5b8141ff62791b70bb9682af285ad8dfb6a70bee6e25fa", func := "example.com/pathwarden/pathwarden/pkg/mrt.LawS1703BCut", spec := "lawS1703BCut", stops := ["fmt.Sprintf", "fmt.errorf"], inPlace := ["fmt.errorf"], named := ["encoding/binary.BigEndian", "net/netip.z6noz", "net/netip.z4", "net/netip.z0", "internal/strconv.uint64pow10", "math/bits.deBruijn32tab", "math/bits.deBruijn64tab"], apart := false, laid := [("math/bits.deBruijn32tab", laid_math_bits_deBruijn32tab), ("math/bits.deBruijn64tab", laid_math_bits_deBruijn64tab), ("internal/strconv.uint64pow10", laid_internal_strconv_uint64pow10), ("net/netip.z4", laid_net_netip_z4), ("net/netip.z6noz", laid_net_netip_z6noz), ("net/netip.z0", laid_net_netip_z0)] }
/-- NO THEOREM (fmt's text is open here; it may be false): for the released tool's asking of the row's closed facts alone. THE STATEMENT IS 'LawS1703BCutToldSaid' (YbulkaigaFmtCards.lean). -/
def LawS1703BCutFormAsk : Prop := lawS1703BCutRow.holds Ybaf.pinned (OpenSpec.ofChange lawS1703BCutSpec)

/-- ITS FALSE NEIGHBOUR: 'it returns false'. Refute it at one input. -/
def lawS1703BCutWrong : ChangeSpec := { name := "lawS1703BCut", fn := fun _ => fun
  | [d1, d2, d3, d4, d5, d6, d7] => { results := [.lit (.bool false)], args := [d1, d2, d3, d4, d5, d6, d7] }
  | _ => none }
def LawS1703BCutWrongFormAsk : Prop := lawS1703BCutRow.holds Ybaf.pinned (OpenSpec.ofChange lawS1703BCutWrong)

/-- 'aspa.LawS1703CNames': WHATEVER THE INPUT: true; the input reads as it did. -/
def lawS1703CNamesSpec : ChangeSpec := { name := "lawS1703CNames", fn := fun _ => fun
  | [d] => { results := [.lit (.bool true)], args := [d] }
  | _ => none }
def lawS1703CNamesRow : OpenClaim := { program := "ybulkaigafmt", sum := "f5842f442f06a9465e5b8141ff62791b70bb9682af285ad8dfb6a70bee6e25fa", func := "example.com/pathwarden/pathwarden/pkg/aspa.LawS1703CNames", spec := "lawS1703CNames", stops := ["fmt.Sprintf", "fmt.errorf"], inPlace := ["fmt.Sprintf"], apart := false }
/-- NO THEOREM (fmt's text is open here; it may be false): for the released tool's asking of the row's closed facts alone. THE STATEMENT IS 'LawS1703CNamesToldSaid' (YbulkaigaFmtCards.lean). -/
def LawS1703CNamesFormAsk : Prop := lawS1703CNamesRow.holds Ybaf.pinned (OpenSpec.ofChange lawS1703CNamesSpec)

/-- ITS FALSE NEIGHBOUR: 'it returns false'. Refute it at one input. -/
def lawS1703CNamesWrong : ChangeSpec := { name := "lawS1703CNames", fn := fun _ => fun
  | [d] => { results := [.lit (.bool false)], args := [d] }
  | _ => none }
def LawS1703CNamesWrongFormAsk : Prop := lawS1703CNamesRow.holds Ybaf.pinned (OpenSpec.ofChange lawS1703CNamesWrong)

/-- 'aspa.LawS1703CByNumber': WHATEVER THE INPUT: true; the input reads as it did. -/
def lawS1703CByNumberSpec : ChangeSpec := { name := "lawS1703CByNumber", fn := fun _ => fun
  | [d] => { results := [.lit (.bool true)], args := [d] }
  | _ => none }
def lawS1703CByNumberRow : OpenClaim := { program := "ybulkaigafmt", sum := "f5842f442f06a9465e5b8141ff62791b70bb9682af285ad8dfb6a70bee6e25fa", func := "example.com/pathwarden/pathwarden/pkg/aspa.LawS1703CByNumber", spec := "lawS1703CByNumber", stops := ["fmt.Sprintf", "fmt.errorf"], inPlace := ["fmt.Sprintf"], apart := false }
/-- NO THEOREM (fmt's text is open here; it may be false): for the released tool's asking of the row's closed facts alone. THE STATEMENT IS 'LawS1703CByNumberToldSaid' (YbulkaigaFmtCards.lean). -/
def LawS1703CByNumberFormAsk : Prop := lawS1703CByNumberRow.holds Ybaf.pinned (OpenSpec.ofChange lawS1703CByNumberSpec)

/-- ITS FALSE NEIGHBOUR: 'it returns false'. Refute it at one input. -/
def lawS1703CByNumberWrong : ChangeSpec := { name := "lawS1703CByNumber", fn := fun _ => fun
  | [d] => { results := [.lit (.bool false)], args := [d] }
  | _ => none }
def LawS1703CByNumberWrongFormAsk : Prop := lawS1703CByNumberRow.holds Ybaf.pinned (OpenSpec.ofChange lawS1703CByNumberWrong)

end Rows
end Go.Proofs.YbulkaigaFmt
