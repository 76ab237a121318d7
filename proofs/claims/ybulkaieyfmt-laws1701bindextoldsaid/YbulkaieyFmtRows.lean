/-
  NARROWER THAN 'FOR EVERY INPUT', by the rows' own cells (each row's printed sentence says how): LawS1701AExact: ifaces, laid · LawS1701ASendReceive: ifaces, laid.
  DERIVED. THE GIVEN ROWS OF THIS SEAT. 3 by the template 'for every input the law returns true; each argument reads behind the call as it read before'; 0 by the template 'total and deterministic' (their statements: YbulkaieyFmtTotals.lean).
  GIVEN WITH THE SEED: the statements are not yours to turn. If you find one false, say at which input.
  Laid BY PROGRAM, IN A SANDBOX (cutbox-rows.mjs): the forced cells as the released guide's own fill.sh prints them over the translation 56432e250395e122… (all of the seat's roots in one cut). By AI agents, Wed Nov 11 2026. No macro, syntax, notation, axiom, sorry.
-/
import Derived.Test.YbulkaieyFmtChecked
import GoSem.Claim
import GoSem.ClaimJoined
import GoSem.ClaimMapViews
import Derived.JoinedTies
import Derived.KernelRfl
namespace Go.Proofs.YbulkaieyFmt
/- THE CELL 'sum', in the pinned program and in every row, IS THE sha256 OF THE DUMP (.gsa) THAT YbulkaieyFmtProg.lean LOADS. Nothing in Lean hashes anything: it is a label: what it is worth is what the hold of that sum in a sandbox is worth. -/
noncomputable def Ybaf.pinned : Pinned := { name := "ybulkaieyfmt", sum := "56432e250395e1221da284de206de8147c669c4028a708483ed9f58f557b5b02", checked := Ybaf.checked }
namespace Rows
def none {H : Type} : Left H := { results := [], args := [] }

/- WHAT THE LISTED PACKAGE-LEVEL VARIABLES READ AS WHEN THE CALL BEGINS. Each datum BY PROGRAM (the guide's laid-datum.mjs) off the statement by which the dump's own 'gosem.cut.vars' lays the variable. In a bare row this is a premise. The card (YbulkaieyFmtCards.lean) ties it to the program's text. -/
def laid_example_com_cutline_cutline_ErrBadStamp {H : Type} : DataW H := .iface "*errors.errorString" (.ptr (.agg [.lit (.string [110, 111, 116, 32, 97, 32, 118, 97, 108, 105, 100, 32, 115, 116, 97, 109, 112])]))

/-- 'cutline.LawS1701AExact': WHATEVER THE INPUT: true; the input reads as it did. -/
def lawS1701AExactSpec : ChangeSpec := { name := "lawS1701AExact", vars := ["example.com/cutline/cutline.ErrBadStamp"], fn := fun _ => fun
  | [d1, d2, g1] => { results := [.lit (.bool true)], args := [d1, d2], vars := [g1] }
  | _ => none }
def lawS1701AExactRow : OpenClaim := { program := "ybulkaieyfmt", sum := "56432e250395e1221da284de206de8147c669c4028a708483ed9f58f557b5b02", func := "example.com/cutline/cutline.LawS1701AExact", spec := "lawS1701AExact", stops := ["fmt.errorf"], inPlace := ["fmt.errorf", "internal/reflectlite.TypeOf"], unfollowed := true, recurses := true, named := ["example.com/cutline/cutline.ErrBadStamp"], ifaces := true, apart := false, laid := [("example.com/cutline/cutline.ErrBadStamp", laid_example_com_cutline_cutline_ErrBadStamp)] }
/-- NO THEOREM (fmt's text is open here; it may be false): for the released tool's asking of the row's closed facts alone. THE STATEMENT IS 'LawS1701AExactToldSaid' (YbulkaieyFmtCards.lean). -/
def LawS1701AExactFormAsk : Prop := lawS1701AExactRow.holds Ybaf.pinned (OpenSpec.ofChange lawS1701AExactSpec)

/-- ITS FALSE NEIGHBOUR: 'it returns false'. Refute it at one input. -/
def lawS1701AExactWrong : ChangeSpec := { name := "lawS1701AExact", vars := ["example.com/cutline/cutline.ErrBadStamp"], fn := fun _ => fun
  | [d1, d2, g1] => { results := [.lit (.bool false)], args := [d1, d2], vars := [g1] }
  | _ => none }
def LawS1701AExactWrongFormAsk : Prop := lawS1701AExactRow.holds Ybaf.pinned (OpenSpec.ofChange lawS1701AExactWrong)

/-- 'cutline.LawS1701ASendReceive': WHATEVER THE INPUT: true; the input reads as it did. -/
def lawS1701ASendReceiveSpec : ChangeSpec := { name := "lawS1701ASendReceive", vars := ["example.com/cutline/cutline.ErrBadStamp"], fn := fun _ => fun
  | [d1, d2, g1] => { results := [.lit (.bool true)], args := [d1, d2], vars := [g1] }
  | _ => none }
def lawS1701ASendReceiveRow : OpenClaim := { program := "ybulkaieyfmt", sum := "56432e250395e1221da284de206de8147c669c4028a708483ed9f58f557b5b02", func := "example.com/cutline/cutline.LawS1701ASendReceive", spec := "lawS1701ASendReceive", stops := ["fmt.errorf"], inPlace := ["fmt.errorf"], named := ["example.com/cutline/cutline.ErrBadStamp"], ifaces := true, apart := false, laid := [("example.com/cutline/cutline.ErrBadStamp", laid_example_com_cutline_cutline_ErrBadStamp)] }
/-- NO THEOREM (fmt's text is open here; it may be false): for the released tool's asking of the row's closed facts alone. THE STATEMENT IS 'LawS1701ASendReceiveToldSaid' (YbulkaieyFmtCards.lean). -/
def LawS1701ASendReceiveFormAsk : Prop := lawS1701ASendReceiveRow.holds Ybaf.pinned (OpenSpec.ofChange lawS1701ASendReceiveSpec)

/-- ITS FALSE NEIGHBOUR: 'it returns false'. Refute it at one input. -/
def lawS1701ASendReceiveWrong : ChangeSpec := { name := "lawS1701ASendReceive", vars := ["example.com/cutline/cutline.ErrBadStamp"], fn := fun _ => fun
  | [d1, d2, g1] => { results := [.lit (.bool false)], args := [d1, d2], vars := [g1] }
  | _ => none }
def LawS1701ASendReceiveWrongFormAsk : Prop := lawS1701ASendReceiveRow.holds Ybaf.pinned (OpenSpec.ofChange lawS1701ASendReceiveWrong)

/-- 'cutline.LawS1701BIndex': WHATEVER THE INPUT: true; the input reads as it did. -/
def lawS1701BIndexSpec : ChangeSpec := { name := "lawS1701BIndex", fn := fun _ => fun
  | [d1, d2, d3, d4] => { results := [.lit (.bool true)], args := [d1, d2, d3, d4] }
  | _ => none }
def lawS1701BIndexRow : OpenClaim := { program := "ybulkaieyfmt", sum := "56432e250395e1221da284de206de8147c669c4028a708483ed9f58f557b5b02", func := "example.com/cutline/cutline.LawS1701BIndex", spec := "lawS1701BIndex", stops := ["fmt.errorf"], inPlace := ["fmt.errorf"], apart := false }
/-- NO THEOREM (fmt's text is open here; it may be false): for the released tool's asking of the row's closed facts alone. THE STATEMENT IS 'LawS1701BIndexToldSaid' (YbulkaieyFmtCards.lean). -/
def LawS1701BIndexFormAsk : Prop := lawS1701BIndexRow.holds Ybaf.pinned (OpenSpec.ofChange lawS1701BIndexSpec)

/-- ITS FALSE NEIGHBOUR: 'it returns false'. Refute it at one input. -/
def lawS1701BIndexWrong : ChangeSpec := { name := "lawS1701BIndex", fn := fun _ => fun
  | [d1, d2, d3, d4] => { results := [.lit (.bool false)], args := [d1, d2, d3, d4] }
  | _ => none }
def LawS1701BIndexWrongFormAsk : Prop := lawS1701BIndexRow.holds Ybaf.pinned (OpenSpec.ofChange lawS1701BIndexWrong)

end Rows
end Go.Proofs.YbulkaieyFmt
