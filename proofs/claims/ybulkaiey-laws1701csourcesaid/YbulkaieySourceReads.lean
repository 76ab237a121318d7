import Derived.Test.YbulkaieyRows
import Derived.Test.YbulkaieySourcePlain
import Derived.WalkKit
import Derived.WalkSpells
import Derived.WalkLawsBesides
import Derived.Deep.QuietTactic
import Derived.BigQuiet
namespace Go.Proofs.Ybulkaiey
open Go.RowKit

/-- Host a's clocks as they lie in memory: in the block cl of the hostClocks, its hostRows at rb, the chunks' one cell at cb, the ends at eb, the entries from pb on. -/
structure HostMem (w : World) (T : Nat → Int) (c : Nat → Nat) (cl a rb cb eb : Nat) (pb : Option Addr) (cap : Nat) : Prop where
  given : w.cell? ⟨cl, a * 4 + 1, none⟩ = some (.int .i64 (c a : Int))
  rows : w.cell? ⟨cl, a * 4 + 3, none⟩ = some (.pointer (some ⟨rb, 0, none⟩))
  chunks : w.cell? ⟨rb, 0, none⟩ = some (.slice (some ⟨cb, 0, none⟩) 1 1)
  shift : w.cell? ⟨rb, 1, none⟩ = some (.int .i64 14)
  ends : w.cell? ⟨rb, 2, none⟩ = some (.slice (some ⟨eb, 0, none⟩) (c a + 1) (c a + 1))
  ended : w.cell? ⟨rb, 3, none⟩ = some (.int .i64 (c a : Int))
  left : w.cell? ⟨rb, 4, none⟩ = some (.slice none 0 0)
  buf : w.cell? ⟨cb, 0, none⟩ = some (.slice pb (bufL T a (c a)).length cap)
  bufcap : (bufL T a (c a)).length ≤ cap
  endAt : ∀ k, k ≤ c a → w.cell? ⟨eb, k, none⟩ = some (.int .u32 ((bufL T a k).length : Int))
  ent : ∀ i x, (bufL T a (c a))[i]? = some x → ∃ bb, pb = some ⟨bb, 0, none⟩ ∧ w.cell? ⟨bb, i * 2, none⟩ = some (.int .i32 (x.1 : Int)) ∧ w.cell? ⟨bb, i * 2 + 1, none⟩ = some (.int .i32 x.2)

theorem and_share (n : Nat) (h : n ≤ 8) : bits BinOp.and IntKind.u32 (n : Int) 2147483648 = 0 := by
  have h9 : n = 0 ∨ n = 1 ∨ n = 2 ∨ n = 3 ∨ n = 4 ∨ n = 5 ∨ n = 6 ∨ n = 7 ∨ n = 8 := by omega
  rcases h9 with rfl | rfl | rfl | rfl | rfl | rfl | rfl | rfl | rfl <;> decide

set_option maxHeartbeats 1000000 in
theorem end_any (rb eb k n e : Nat) (w : World) (hk : k < n) (he : e ≤ 8) (hends : w.cell? ⟨rb, 2, none⟩ = some (.slice (some ⟨eb, 0, none⟩) n n)) (hat : w.cell? ⟨eb, k, none⟩ = some (.int .u32 (e : Int))) :
    Calls Yba.prog 13 #[.pointer (some ⟨rb, 0, none⟩), .int .i64 (k : Int)] w fun r w' => r = .returned (.int .i64 (e : Int)) ∧ w' = w := by
  have ha := and_share e he
  go_enter Yba.func13, Yba.ntmps13
  go_wp2
  go_ret
  exact ⟨rfl, rfl⟩

theorem left_nil (w : World) : (binOp .eql 34 (.slice none 0 0) (.slice none 0 0)).run Yba.prog w = .ok (.bool true) w := by kernel_rfl

set_option maxHeartbeats 1000000 in
theorem holds_yes (w : World) (T : Nat → Int) (c : Nat → Nat) (cl a rb cb eb : Nat) (pb : Option Addr) (cap k : Nat) (hm : HostMem w T c cl a rb cb eb pb cap) (hk : k ≤ c a) :
    Calls Yba.prog 12 #[.pointer (some ⟨cl, a * 4, none⟩), .int .i64 (k : Int)] w fun r w' => r = .returned (.bool true) ∧ ∃ n, w' = w.drewN n := by
  have h1 := hm.given
  have h2 := hm.rows
  have h3 := hm.left
  have hle : decide (k ≤ c a) = true := by simp; omega
  have hnil := left_nil
  clear hm
  go_enter Yba.func12, Yba.ntmps12
  go_wp2_with fail
  go_quiet (fail)
  go_wp2
  go_ret
  exact ⟨rfl, _, rfl⟩

set_option maxHeartbeats 1000000 in
theorem holds_no (w : World) (T : Nat → Int) (c : Nat → Nat) (cl a rb cb eb : Nat) (pb : Option Addr) (cap k : Nat) (hm : HostMem w T c cl a rb cb eb pb cap) (hk : c a < k) :
    Calls Yba.prog 12 #[.pointer (some ⟨cl, a * 4, none⟩), .int .i64 (k : Int)] w fun r w' => r = .returned (.bool false) ∧ ∃ n, w' = w.drewN n := by
  have h1 := hm.given
  have hle : decide (k ≤ c a) = false := by simp; omega
  clear hm
  go_enter Yba.func12, Yba.ntmps12
  go_wp2_with fail
  go_quiet (fail)
  go_wp2
  go_ret
  exact ⟨rfl, _, rfl⟩

set_option maxHeartbeats 1000000 in
theorem row_far (w : World) (T : Nat → Int) (c : Nat → Nat) (cl a rb cb eb : Nat) (pb : Option Addr) (cap k : Nat) (hm : HostMem w T c cl a rb cb eb pb cap) (hk : c a < k) :
    Calls Yba.prog 11 #[.pointer (some ⟨cl, a * 4, none⟩), .int .i64 (k : Int)] w fun r w' => r = .returned (.slice none 0 0) ∧ w' = w := by
  have h2 := hm.rows
  have h3 := hm.ended
  clear hm
  go_enter Yba.func11, Yba.ntmps11
  go_wp2
  go_ret
  exact ⟨rfl, rfl⟩

end Go.Proofs.Ybulkaiey
