import Derived.Test.YbulkaigaFmtPrefixWalks
import Derived.Test.YbulkaigaFmtNetip4
namespace Go.Proofs.YbulkaigaFmt
open Go.RowKit Go.Extern.Stop Go.Stop Go.Extern

theorem Ybaf.fmt_e2 : FmtStop.printed? ⟨#[101, 110, 116, 114, 121, 32, 37, 100, 32, 111, 102, 32, 37, 100, 32, 114, 117, 110, 115, 32, 112, 97, 115, 116, 32, 116, 104, 101, 32, 101, 110, 100, 32, 111, 102, 32, 116, 104, 101, 32, 114, 101, 99, 111, 114, 100]⟩ 2 = some [(0, 100, false), (1, 100, false)] := by kernel_rfl
theorem Ybaf.fmtr_e2 (w : World) : (FmtDoors.printed ⟨#[101, 110, 116, 114, 121, 32, 37, 100, 32, 111, 102, 32, 37, 100, 32, 114, 117, 110, 115, 32, 112, 97, 115, 116, 32, 116, 104, 101, 32, 101, 110, 100, 32, 111, 102, 32, 116, 104, 101, 32, 114, 101, 99, 111, 114, 100]⟩ 2).run Ybaf.prog w = .ok [(0, 100, false), (1, 100, false)] w := by kernel_rfl
theorem Ybaf.fmt_a2 : FmtStop.printed? ⟨#[101, 110, 116, 114, 121, 32, 37, 100, 58, 32, 97, 116, 116, 114, 105, 98, 117, 116, 101, 115, 32, 111, 102, 32, 37, 100, 32, 98, 121, 116, 101, 115, 32, 114, 117, 110, 32, 112, 97, 115, 116, 32, 116, 104, 101, 32, 101, 110, 100, 32, 111, 102, 32, 116, 104, 101, 32, 114, 101, 99, 111, 114, 100]⟩ 2 = some [(0, 100, false), (1, 100, false)] := by kernel_rfl
theorem Ybaf.fmtr_a2 (w : World) : (FmtDoors.printed ⟨#[101, 110, 116, 114, 121, 32, 37, 100, 58, 32, 97, 116, 116, 114, 105, 98, 117, 116, 101, 115, 32, 111, 102, 32, 37, 100, 32, 98, 121, 116, 101, 115, 32, 114, 117, 110, 32, 112, 97, 115, 116, 32, 116, 104, 101, 32, 101, 110, 100, 32, 111, 102, 32, 116, 104, 101, 32, 114, 101, 99, 111, 114, 100]⟩ 2).run Ybaf.prog w = .ok [(0, 100, false), (1, 100, false)] w := by kernel_rfl
theorem Ybaf.fmt_p1 : FmtStop.printed? ⟨#[112, 114, 101, 102, 105, 120, 32, 111, 102, 32, 108, 101, 110, 103, 116, 104, 32, 37, 100, 32, 114, 117, 110, 115, 32, 112, 97, 115, 116, 32, 116, 104, 101, 32, 101, 110, 100, 32, 111, 102, 32, 116, 104, 101, 32, 102, 105, 101, 108, 100]⟩ 1 = some [(0, 100, false)] := by kernel_rfl
theorem Ybaf.fmtr_p1 (w : World) : (FmtDoors.printed ⟨#[112, 114, 101, 102, 105, 120, 32, 111, 102, 32, 108, 101, 110, 103, 116, 104, 32, 37, 100, 32, 114, 117, 110, 115, 32, 112, 97, 115, 116, 32, 116, 104, 101, 32, 101, 110, 100, 32, 111, 102, 32, 116, 104, 101, 32, 102, 105, 101, 108, 100]⟩ 1).run Ybaf.prog w = .ok [(0, 100, false)] w := by kernel_rfl
theorem Ybaf.fmt_b1 : FmtStop.printed? ⟨#[98, 111, 100, 121, 32, 111, 102, 32, 37, 100, 32, 98, 121, 116, 101, 115, 44, 32, 116, 111, 111, 32, 115, 104, 111, 114, 116, 32, 102, 111, 114, 32, 105, 116, 115, 32, 115, 101, 113, 117, 101, 110, 99, 101, 32, 110, 117, 109, 98, 101, 114]⟩ 1 = some [(0, 100, false)] := by kernel_rfl
theorem Ybaf.fmtr_b1 (w : World) : (FmtDoors.printed ⟨#[98, 111, 100, 121, 32, 111, 102, 32, 37, 100, 32, 98, 121, 116, 101, 115, 44, 32, 116, 111, 111, 32, 115, 104, 111, 114, 116, 32, 102, 111, 114, 32, 105, 116, 115, 32, 115, 101, 113, 117, 101, 110, 99, 101, 32, 110, 117, 109, 98, 101, 114]⟩ 1).run Ybaf.prog w = .ok [(0, 100, false)] w := by kernel_rfl
attribute [local go_sem] Ybaf.call29 Ybaf.guard Ybaf.op3_100w Ybaf.ptr93 Ybaf.elem93 Ybaf.isError93' Ybaf.fmt_e2 Ybaf.fmtr_e2 Ybaf.fmt_a2 Ybaf.fmtr_a2 Ybaf.fmt_p1 Ybaf.fmtr_p1 Ybaf.fmt_b1 Ybaf.fmtr_b1

set_option maxHeartbeats 1000000 in
theorem errorf_e2 (F : Interp) (x0 : Int) (x1 : Int) (blk : Nat) (w : World) (hF : F.answers w.tape) (hc0 : w.cell? ⟨blk, 0, none⟩ = some (.iface 3 (.int .i64 x0))) (hc1 : w.cell? ⟨blk, 1, none⟩ = some (.iface 3 (.int .i64 x1))) :
    Calls Ybaf.prog 20 #[.string ⟨#[101, 110, 116, 114, 121, 32, 37, 100, 32, 111, 102, 32, 37, 100, 32, 114, 117, 110, 115, 32, 112, 97, 115, 116, 32, 116, 104, 101, 32, 101, 110, 100, 32, 111, 102, 32, 116, 104, 101, 32, 114, 101, 99, 111, 114, 100]⟩, .slice (some ⟨blk, 0, none⟩) 2 2] w fun e w' =>
      e = .returned (.iface 93 (.pointer (some ⟨w.heap.size, 0, none⟩))) ∧ w.grownBy w' none := by
  have hF' := hF
  unfold Interp.answers at hF'
  go_enter Ybaf.func20, Ybaf.ntmps20
  go_wp2
  go_ret
  exact ⟨rfl, grown_alloc_drew _ _ none⟩

set_option maxHeartbeats 1000000 in
theorem errorf_a2 (F : Interp) (x0 : Int) (x1 : Int) (blk : Nat) (w : World) (hF : F.answers w.tape) (hc0 : w.cell? ⟨blk, 0, none⟩ = some (.iface 3 (.int .i64 x0))) (hc1 : w.cell? ⟨blk, 1, none⟩ = some (.iface 3 (.int .i64 x1))) :
    Calls Ybaf.prog 20 #[.string ⟨#[101, 110, 116, 114, 121, 32, 37, 100, 58, 32, 97, 116, 116, 114, 105, 98, 117, 116, 101, 115, 32, 111, 102, 32, 37, 100, 32, 98, 121, 116, 101, 115, 32, 114, 117, 110, 32, 112, 97, 115, 116, 32, 116, 104, 101, 32, 101, 110, 100, 32, 111, 102, 32, 116, 104, 101, 32, 114, 101, 99, 111, 114, 100]⟩, .slice (some ⟨blk, 0, none⟩) 2 2] w fun e w' =>
      e = .returned (.iface 93 (.pointer (some ⟨w.heap.size, 0, none⟩))) ∧ w.grownBy w' none := by
  have hF' := hF
  unfold Interp.answers at hF'
  go_enter Ybaf.func20, Ybaf.ntmps20
  go_wp2
  go_ret
  exact ⟨rfl, grown_alloc_drew _ _ none⟩

set_option maxHeartbeats 1000000 in
theorem errorf_p1 (F : Interp) (x0 : Int) (blk : Nat) (w : World) (hF : F.answers w.tape) (hc0 : w.cell? ⟨blk, 0, none⟩ = some (.iface 3 (.int .i64 x0))) :
    Calls Ybaf.prog 20 #[.string ⟨#[112, 114, 101, 102, 105, 120, 32, 111, 102, 32, 108, 101, 110, 103, 116, 104, 32, 37, 100, 32, 114, 117, 110, 115, 32, 112, 97, 115, 116, 32, 116, 104, 101, 32, 101, 110, 100, 32, 111, 102, 32, 116, 104, 101, 32, 102, 105, 101, 108, 100]⟩, .slice (some ⟨blk, 0, none⟩) 1 1] w fun e w' =>
      e = .returned (.iface 93 (.pointer (some ⟨w.heap.size, 0, none⟩))) ∧ w.grownBy w' none := by
  have hF' := hF
  unfold Interp.answers at hF'
  go_enter Ybaf.func20, Ybaf.ntmps20
  go_wp2
  go_ret
  exact ⟨rfl, grown_alloc_drew _ _ none⟩

set_option maxHeartbeats 1000000 in
theorem errorf_b1 (F : Interp) (x0 : Int) (blk : Nat) (w : World) (hF : F.answers w.tape) (hc0 : w.cell? ⟨blk, 0, none⟩ = some (.iface 3 (.int .i64 x0))) :
    Calls Ybaf.prog 20 #[.string ⟨#[98, 111, 100, 121, 32, 111, 102, 32, 37, 100, 32, 98, 121, 116, 101, 115, 44, 32, 116, 111, 111, 32, 115, 104, 111, 114, 116, 32, 102, 111, 114, 32, 105, 116, 115, 32, 115, 101, 113, 117, 101, 110, 99, 101, 32, 110, 117, 109, 98, 101, 114]⟩, .slice (some ⟨blk, 0, none⟩) 1 1] w fun e w' =>
      e = .returned (.iface 93 (.pointer (some ⟨w.heap.size, 0, none⟩))) ∧ w.grownBy w' none := by
  have hF' := hF
  unfold Interp.answers at hF'
  go_enter Ybaf.func20, Ybaf.ntmps20
  go_wp2
  go_ret
  exact ⟨rfl, grown_alloc_drew _ _ none⟩

set_option maxHeartbeats 1000000 in
theorem new_any (s : ByteArray) (w : World) :
    Calls Ybaf.prog 23 #[.string s] w fun e w' => e = .returned (.iface 93 (.pointer (some ⟨w.heap.size, 0, none⟩))) ∧ w.grownBy w' none := by
  go_enter Ybaf.func23, Ybaf.ntmps23
  go_wp2
  go_ret
  exact ⟨rfl, World.grownBy_alloc _ _ none⟩
end Go.Proofs.YbulkaigaFmt
