import Derived.Test.YbulkaieyFmtRows
import Derived.Test.YbulkaieyFmtTie
import Derived.Test.YbulkaieyFmtCards
import Derived.ProofKit
import Derived.WalkSmall
import Derived.Stop.JoinedAt
import Derived.Stop.JoinedTold
import Derived.Stop.Texts
import Derived.Stop.ErrReads
import Derived.Stop.LaidErr
import Derived.SevenToldRow
import Derived.SevenTiedAt
namespace Go.Proofs.YbulkaieyFmt
open Go.ChangeShapes Go.WideShapes Go.ChangeAt Go.RowKit Go.Kit
open Go.Extern.Stop Go.Stop Go.Extern

theorem Ybaf.own : ownKnob Ybaf.prog.godebug = none := by kernel_rfl
theorem Ybaf.laidOut : laidOutB Ybaf.pinned.checked.prog = true := by kernel_rfl
theorem Ybaf.stops : Ybaf.pinned.checked.prog.stops = ["fmt.errorf"] := by kernel_rfl
theorem Ybaf.stopKnobs : Ybaf.pinned.checked.prog.stopKnobs = [] := by kernel_rfl
theorem Ybaf.quiet (os : Os) : Stop.quiet Ybaf.pinned.checked.prog os := by
  intro k hk
  rw [Ybaf.stopKnobs] at hk
  cases hk
/-- The name of the one listed variable (cutline's ErrBadStamp), out of the given row. -/
abbrev errVar : String := Rows.lawS1701AExactSpec.vars.headD ""
theorem Ybaf.gO : Ybaf.prog.globalNamed errVar = some 0 := by kernel_rfl
theorem Ybaf.gOType : (Ybaf.prog.globals[0]?).map (·.type) = some 25 := by kernel_rfl
theorem Ybaf.cells101 : Ybaf.prog.cellsOf 101 = 1 := by kernel_rfl
theorem Ybaf.cells9 : Ybaf.prog.cellsOf 9 = 1 := by kernel_rfl
theorem Ybaf.cells138 : Ybaf.prog.cellsOf 138 = 2 := by kernel_rfl
theorem Ybaf.cells25 : Ybaf.prog.cellsOf 25 = 1 := by kernel_rfl
/-- The dynamic type's name in a datum that is an interface value. -/
def ifaceName : DataW Unit → String
  | .iface n _ => n
  | _ => ""
/-- The sentinel's dynamic type's name, out of the given datum. -/
abbrev sentName : String := ifaceName Rows.laid_example_com_cutline_cutline_ErrBadStamp
theorem Ybaf.row99 (u : TypeId) (h : Ybaf.prog.typeName? 3 u = some sentName) : u = 99 :=
  typeName_ptr_named (nm := "errors.errorString") (by kernel_rfl) (by kernel_rfl) (by decide) u (by rw [h]; exact congrArg some (by decide))

/-- The sentinel's text. -/
abbrev badS : ByteArray := { data := #[110, 111, 116, 32, 97, 32, 118, 97, 108, 105, 100, 32, 115, 116, 97, 109, 112] }
/-- How many blocks lie before a start's own. -/
def lowOf (P : Program) : Nat := (World.holding P default ⟨#[], #[], []⟩).heap.size
/-- A world in which the sentinel's variable (block g) reads as listed. -/
def laidWorld (P : Program) (os : Os) (g : Nat) (s : ByteArray) : World :=
  let w0 := World.holding P os ⟨#[.cells #[.string s] 101], #[], []⟩
  { w0 with heap := w0.heap.modify g fun
      | .cells _ t frozen => .cells #[.iface 99 (.pointer (some ⟨lowOf P, 0, none⟩))] t frozen
      | o => o }
theorem laidO_met (os : Os) (args : Array Value) : laidMet Ybaf.prog [(errVar, Rows.laid_example_com_cutline_cutline_ErrBadStamp)] ((laidWorld Ybaf.prog os 0 badS).forCall (fun _ _ => 0) ⟨#[], args, []⟩).memory :=
  laidMet_of_run (ps := [.cell 0 0, .cell (lowOf Ybaf.prog) 0]) 8 (by kernel_rfl) (by kernel_rfl) (by kernel_rfl)
end Go.Proofs.YbulkaieyFmt
