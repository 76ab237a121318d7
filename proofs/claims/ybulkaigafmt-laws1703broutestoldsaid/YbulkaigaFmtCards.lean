/-
  DERIVED. GIVEN WITH THE SEED: THE CARDS: each row of YbulkaigaFmtRows.lean that lists a variable, with what it lists TIED to the program's text (the seventh form; the later family's looks); each row that meets fmt, with fmt's text TOLD by the authors' own Lean function (tested against real Go, not proved from fmt's source: count such statements apart). THE CARD IS WHAT COUNTS. Prove the row's statement (the work); the ties are given (YbulkaigaFmtTie.lean); close each card by the builder's one call (the guide's Derived/Test/ToyasCard.lean, 'card_holds'). Laid BY PROGRAM, IN A SANDBOX (cutbox-door.mjs). By AI agents, Wed Nov 11 2026. No macro, syntax, notation, axiom, sorry.
-/
import Derived.Test.YbulkaigaFmtRows
import GoSem.ClaimSeven
namespace Go.Proofs.YbulkaigaFmt
namespace Rows

/-- THE TOLD CARD OF 'mrt.LawS1703AExact'. -/
def lawS1703AExactCard : Claim7 := { stood := { row := lawS1703AExactRow, standIns := [], harness := (true, "314926cbf3086409b0e22d2bdabe9a249ae88abb7caf7fa7d370838965686304"), looks := false }, told := true, goes := false }
def LawS1703AExactToldSaid : Prop := Claim7.holds Ybaf.pinned (.plain (OpenSpec.ofChange lawS1703AExactSpec)) lawS1703AExactCard
/-- ITS FALSE NEIGHBOUR. Refute it at one input. -/
def LawS1703AExactToldWrongFalsely : Prop := Claim7.holds Ybaf.pinned (.plain (OpenSpec.ofChange lawS1703AExactWrong)) lawS1703AExactCard

/-- THE TOLD CARD OF 'mrt.LawS1703AFamilies'. -/
def lawS1703AFamiliesCard : Claim7 := { stood := { row := lawS1703AFamiliesRow, standIns := [], harness := (true, "314926cbf3086409b0e22d2bdabe9a249ae88abb7caf7fa7d370838965686304"), looks := false }, told := true, goes := false }
def LawS1703AFamiliesToldSaid : Prop := Claim7.holds Ybaf.pinned (.plain (OpenSpec.ofChange lawS1703AFamiliesSpec)) lawS1703AFamiliesCard
/-- ITS FALSE NEIGHBOUR. Refute it at one input. -/
def LawS1703AFamiliesToldWrongFalsely : Prop := Claim7.holds Ybaf.pinned (.plain (OpenSpec.ofChange lawS1703AFamiliesWrong)) lawS1703AFamiliesCard

/-- THE TOLD AND TIED CARD OF 'mrt.LawS1703BRoutes'. -/
def lawS1703BRoutesCard : Claim7 := { stood := { row := lawS1703BRoutesRow, standIns := [], harness := (true, "314926cbf3086409b0e22d2bdabe9a249ae88abb7caf7fa7d370838965686304"), looks := false }, told := true, laidByText := true, laidKinds := [.data, .data, .data, .called, .called, .zero], laidTests := true, laidLooks := .later, goes := false }
def LawS1703BRoutesToldSaid : Prop := Claim7.holds Ybaf.pinned (.plain (OpenSpec.ofChange lawS1703BRoutesSpec)) lawS1703BRoutesCard
/-- ITS FALSE NEIGHBOUR. Refute it at one input. -/
def LawS1703BRoutesToldWrongFalsely : Prop := Claim7.holds Ybaf.pinned (.plain (OpenSpec.ofChange lawS1703BRoutesWrong)) lawS1703BRoutesCard

/-- THE TOLD AND TIED CARD OF 'mrt.LawS1703BCut'. -/
def lawS1703BCutCard : Claim7 := { stood := { row := lawS1703BCutRow, standIns := [], harness := (true, "314926cbf3086409b0e22d2bdabe9a249ae88abb7caf7fa7d370838965686304"), looks := false }, told := true, laidByText := true, laidKinds := [.data, .data, .data, .called, .called, .zero], laidTests := true, laidLooks := .later, goes := false }
def LawS1703BCutToldSaid : Prop := Claim7.holds Ybaf.pinned (.plain (OpenSpec.ofChange lawS1703BCutSpec)) lawS1703BCutCard
/-- ITS FALSE NEIGHBOUR. Refute it at one input. -/
def LawS1703BCutToldWrongFalsely : Prop := Claim7.holds Ybaf.pinned (.plain (OpenSpec.ofChange lawS1703BCutWrong)) lawS1703BCutCard

/-- THE TOLD CARD OF 'aspa.LawS1703CNames'. -/
def lawS1703CNamesCard : Claim7 := { stood := { row := lawS1703CNamesRow, standIns := [], harness := (true, "314926cbf3086409b0e22d2bdabe9a249ae88abb7caf7fa7d370838965686304"), looks := false }, told := true, goes := false }
def LawS1703CNamesToldSaid : Prop := Claim7.holds Ybaf.pinned (.plain (OpenSpec.ofChange lawS1703CNamesSpec)) lawS1703CNamesCard
/-- ITS FALSE NEIGHBOUR. Refute it at one input. -/
def LawS1703CNamesToldWrongFalsely : Prop := Claim7.holds Ybaf.pinned (.plain (OpenSpec.ofChange lawS1703CNamesWrong)) lawS1703CNamesCard

/-- THE TOLD CARD OF 'aspa.LawS1703CByNumber'. -/
def lawS1703CByNumberCard : Claim7 := { stood := { row := lawS1703CByNumberRow, standIns := [], harness := (true, "314926cbf3086409b0e22d2bdabe9a249ae88abb7caf7fa7d370838965686304"), looks := false }, told := true, goes := false }
def LawS1703CByNumberToldSaid : Prop := Claim7.holds Ybaf.pinned (.plain (OpenSpec.ofChange lawS1703CByNumberSpec)) lawS1703CByNumberCard
/-- ITS FALSE NEIGHBOUR. Refute it at one input. -/
def LawS1703CByNumberToldWrongFalsely : Prop := Claim7.holds Ybaf.pinned (.plain (OpenSpec.ofChange lawS1703CByNumberWrong)) lawS1703CByNumberCard
end Rows
end Go.Proofs.YbulkaigaFmt
