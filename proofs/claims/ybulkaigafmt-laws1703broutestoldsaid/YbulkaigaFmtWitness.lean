import Derived.Test.YbulkaigaFmtLaid
namespace Go.Proofs.YbulkaigaFmt
open Go.ChangeShapes Go.WideShapes Go.ChangeAt Go.RowKit Go.Kit
open Go.Extern.Stop Go.Stop Go.Extern

/-- The cells of a listed table. -/
def tableCells : DataW Unit → Array Value
  | .agg ds => (ds.map fun | .lit (.int k n) => Value.int k n | _ => undef).toArray
  | _ => #[]
/-- How many blocks lie before a start's own. -/
def lowOf (P : Program) : Nat := (World.holding P default ⟨#[], #[], []⟩).heap.size
def putCells (w : World) (g : Nat) (cs : Array Value) : World :=
  { w with heap := w.heap.modify g fun
      | .cells _ t frozen => .cells cs t frozen
      | o => o }
/-- A world in which the listed variables read as listed. -/
def laidWorld (P : Program) (os : Os) : World :=
  let w0 := World.holding P os ⟨#[.cells #[.bool false, .string ⟨#[]⟩] 151, .cells #[.bool true, .string ⟨#[]⟩] 151], #[], []⟩
  putCells (putCells (putCells (putCells (putCells w0 1 #[.pointer (some ⟨lowOf P + 1, 0, none⟩)]) 2 #[.pointer (some ⟨lowOf P, 0, none⟩)]) 4 (tableCells Rows.laid_internal_strconv_uint64pow10)) 5 (tableCells Rows.laid_math_bits_deBruijn32tab)) 6 (tableCells Rows.laid_math_bits_deBruijn64tab)
set_option maxRecDepth 100000 in
theorem laid_met (os : Os) (args : Array Value) : laidMet Ybaf.prog Rows.lawS1703BCutRow.laid ((laidWorld Ybaf.prog os).forCall (fun _ _ => 0) ⟨#[], args, []⟩).memory :=
  laidMet_of_run (ps := (List.range 32).map (.cell 5 ·) ++ ((List.range 64).map (.cell 6 ·) ++ ((List.range 20).map (.cell 4 ·) ++ [.cell 2 0, .cell (lowOf Ybaf.prog) 0, .cell (lowOf Ybaf.prog) 1, .cell 1 0, .cell (lowOf Ybaf.prog + 1) 0, .cell (lowOf Ybaf.prog + 1) 1, .cell 3 0]))) 8 (by kernel_rfl) (by kernel_rfl) (by kernel_rfl)
end Go.Proofs.YbulkaigaFmt
