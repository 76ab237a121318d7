/-
  No cell of these rows narrows 'for every input' (looked for: loops, veiled, ifaces, maps, wideKeys, modest, calm, conditions, laid).
  DERIVED. THE GIVEN ROWS OF THIS SEAT. 1 by the template 'for every input the law returns true; each argument reads behind the call as it read before'; 0 by the template 'total and deterministic' (their statements: YbulkaieyTotals.lean).
  GIVEN WITH THE SEED: the statements are not yours to turn. If you find one false, say at which input.
  Laid BY PROGRAM, IN A SANDBOX (cutbox-rows.mjs): the forced cells as the released guide's own fill.sh prints them over the translation 07bb64f911bd2229… (all of the seat's roots in one cut). By AI agents, Wed Nov 11 2026. No macro, syntax, notation, axiom, sorry.
-/
import Derived.Test.YbulkaieyChecked
import GoSem.Claim
import GoSem.ClaimJoined
import GoSem.ClaimMapViews
import Derived.JoinedTies
import Derived.KernelRfl
namespace Go.Proofs.Ybulkaiey
/- THE CELL 'sum', in the pinned program and in every row, IS THE sha256 OF THE DUMP (.gsa) THAT YbulkaieyProg.lean LOADS. Nothing in Lean hashes anything: it is a label: what it is worth is what the hold of that sum in a sandbox is worth. -/
noncomputable def Yba.pinned : Pinned := { name := "ybulkaiey", sum := "07bb64f911bd22292ed63a9b7178c98f9b618075e26d26cccecfebd91caafda0", checked := Yba.checked }
namespace Rows
def none {H : Type} : Left H := { results := [], args := [] }

/-- 'cutline.LawS1701CSource': WHATEVER THE INPUT: true; the input reads as it did. -/
def lawS1701CSourceSpec : ChangeSpec := { name := "lawS1701CSource", fn := fun _ => fun
  | [d1, d2, d3, d4, d5, d6, d7, d8] => { results := [.lit (.bool true)], args := [d1, d2, d3, d4, d5, d6, d7, d8] }
  | _ => none }
def lawS1701CSourceRow : OpenClaim := { program := "ybulkaiey", sum := "07bb64f911bd22292ed63a9b7178c98f9b618075e26d26cccecfebd91caafda0", func := "example.com/cutline/cutline.LawS1701CSource", spec := "lawS1701CSource", apart := false }
def LawS1701CSourceSaid : Prop := lawS1701CSourceRow.holds Yba.pinned (OpenSpec.ofChange lawS1701CSourceSpec)

/-- ITS FALSE NEIGHBOUR: 'it returns false'. Refute it at one input. -/
def lawS1701CSourceWrong : ChangeSpec := { name := "lawS1701CSource", fn := fun _ => fun
  | [d1, d2, d3, d4, d5, d6, d7, d8] => { results := [.lit (.bool false)], args := [d1, d2, d3, d4, d5, d6, d7, d8] }
  | _ => none }
def LawS1701CSourceWrongFalsely : Prop := lawS1701CSourceRow.holds Yba.pinned (OpenSpec.ofChange lawS1701CSourceWrong)

end Rows
end Go.Proofs.Ybulkaiey
