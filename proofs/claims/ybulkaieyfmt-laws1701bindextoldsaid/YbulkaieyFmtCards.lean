/-
  DERIVED. GIVEN WITH THE SEED: THE CARDS: each row of YbulkaieyFmtRows.lean that lists a variable, with what it lists TIED to the program's text (the seventh form; the later family's looks); each row that meets fmt, with fmt's text TOLD by the authors' own Lean function (tested against real Go, not proved from fmt's source: count such statements apart). THE CARD IS WHAT COUNTS. Prove the row's statement (the work); the ties are given (YbulkaieyFmtTie.lean); close each card by the builder's one call (the guide's Derived/Test/ToyasCard.lean, 'card_holds'). Laid BY PROGRAM, IN A SANDBOX (cutbox-door.mjs). By AI agents, Wed Nov 11 2026. No macro, syntax, notation, axiom, sorry.
-/
import Derived.Test.YbulkaieyFmtRows
import GoSem.ClaimSeven
namespace Go.Proofs.YbulkaieyFmt
namespace Rows

/-- THE TOLD AND TIED CARD OF 'cutline.LawS1701AExact'. -/
def lawS1701AExactCard : Claim7 := { stood := { row := lawS1701AExactRow, standIns := [], harness := (true, "6f6c36d59862f5a620733693d74c1cf25b0a73b977828db6178a4e49a99e4ce8"), looks := true }, told := true, laidByText := true, laidKinds := [.called], laidTests := true, laidLooks := .later, goes := false }
def LawS1701AExactToldSaid : Prop := Claim7.holds Ybaf.pinned (.plain (OpenSpec.ofChange lawS1701AExactSpec)) lawS1701AExactCard
/-- ITS FALSE NEIGHBOUR. Refute it at one input. -/
def LawS1701AExactToldWrongFalsely : Prop := Claim7.holds Ybaf.pinned (.plain (OpenSpec.ofChange lawS1701AExactWrong)) lawS1701AExactCard

/-- THE TOLD AND TIED CARD OF 'cutline.LawS1701ASendReceive'. -/
def lawS1701ASendReceiveCard : Claim7 := { stood := { row := lawS1701ASendReceiveRow, standIns := [], harness := (true, "6f6c36d59862f5a620733693d74c1cf25b0a73b977828db6178a4e49a99e4ce8"), looks := true }, told := true, laidByText := true, laidKinds := [.called], laidTests := true, laidLooks := .later, goes := false }
def LawS1701ASendReceiveToldSaid : Prop := Claim7.holds Ybaf.pinned (.plain (OpenSpec.ofChange lawS1701ASendReceiveSpec)) lawS1701ASendReceiveCard
/-- ITS FALSE NEIGHBOUR. Refute it at one input. -/
def LawS1701ASendReceiveToldWrongFalsely : Prop := Claim7.holds Ybaf.pinned (.plain (OpenSpec.ofChange lawS1701ASendReceiveWrong)) lawS1701ASendReceiveCard

/-- THE TOLD CARD OF 'cutline.LawS1701BIndex'. -/
def lawS1701BIndexCard : Claim7 := { stood := { row := lawS1701BIndexRow, standIns := [], harness := (true, "6f6c36d59862f5a620733693d74c1cf25b0a73b977828db6178a4e49a99e4ce8"), looks := true }, told := true, goes := false }
def LawS1701BIndexToldSaid : Prop := Claim7.holds Ybaf.pinned (.plain (OpenSpec.ofChange lawS1701BIndexSpec)) lawS1701BIndexCard
/-- ITS FALSE NEIGHBOUR. Refute it at one input. -/
def LawS1701BIndexToldWrongFalsely : Prop := Claim7.holds Ybaf.pinned (.plain (OpenSpec.ofChange lawS1701BIndexWrong)) lawS1701BIndexCard
end Rows
end Go.Proofs.YbulkaieyFmt
