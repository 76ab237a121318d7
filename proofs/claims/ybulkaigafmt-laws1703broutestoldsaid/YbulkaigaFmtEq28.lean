import Derived.Test.YbulkaigaFmtASPath
import Derived.ChangeKeysEq
namespace Go.Proofs.YbulkaigaFmt
open Go.RowKit

theorem cells5 : Ybaf.prog.cellsOf 5 = 1 := by kernel_rfl
theorem part5 (xs : Array Value) (j : Nat) (x : Int) (w : World) (h : xs[j]? = some (.int .u8 x)) : (part 5 xs j).run Ybaf.prog w = .ok (.int .u8 x) w := by
  simp [part, go_sem, h]
/-- A row of bytes is equal to itself. -/
theorem items_same (xs : Array Value) (w : World) : ∀ is : List Nat, (∀ j ∈ is, ∃ x, xs[j]? = some (.int .u8 x)) → (Op.eqItems 9999 5 1 xs xs is).run Ybaf.prog w = .ok true w
  | [], _ => by simp [Op.eqItems]
  | j :: is, h => by
    obtain ⟨x, hx⟩ := h j (by simp)
    simp only [Op.eqItems, Sem.run_bind, Nat.mul_one]
    rw [part5 xs j x w hx]
    simp only [Result.andThen_ok]
    rw [part5 xs j x w hx]
    simp only [Result.andThen_ok]
    rw [run_equalIn_int w 9998 5 .u8 .u8 x x Ybaf.underlying5]
    simp only [Result.andThen_ok, beq_self_eq_true, Bool.not_true, Bool.false_eq_true, if_false]
    exact items_same xs w is (fun j hj => h j (by simp [hj]))
theorem eq28 (v0 v1 v2 v3 v4 v5 v6 v7 v8 v9 v10 v11 v12 v13 v14 v15 : Int) (w : World) :
    (Op.equalIn 10000 28 (.agg #[.int .u8 v0, .int .u8 v1, .int .u8 v2, .int .u8 v3, .int .u8 v4, .int .u8 v5, .int .u8 v6, .int .u8 v7, .int .u8 v8, .int .u8 v9, .int .u8 v10, .int .u8 v11, .int .u8 v12, .int .u8 v13, .int .u8 v14, .int .u8 v15]) (.agg #[.int .u8 v0, .int .u8 v1, .int .u8 v2, .int .u8 v3, .int .u8 v4, .int .u8 v5, .int .u8 v6, .int .u8 v7, .int .u8 v8, .int .u8 v9, .int .u8 v10, .int .u8 v11, .int .u8 v12, .int .u8 v13, .int .u8 v14, .int .u8 v15])).run Ybaf.prog w = .ok true w := by
  rw [run_equalIn_array w 9999 _ _ Ybaf.underlying28 Ybaf.info5, cells5]
  refine items_same _ w _ (fun j hj => ?_)
  have hj := List.mem_range.mp hj
  match j, hj with
  | 0, _ | 1, _ | 2, _ | 3, _ | 4, _ | 5, _ | 6, _ | 7, _ | 8, _ | 9, _ | 10, _ | 11, _ | 12, _ | 13, _ | 14, _ | 15, _ => exact ⟨_, rfl⟩
  | j + 16, h => omega
end Go.Proofs.YbulkaigaFmt
