import Derived.Test.YbulkaieyFmtRows
import Derived.WalkKit
import Derived.WalkSpells
import Derived.WalkLawsBesides
import Derived.Stop.CallBack
import Derived.Stop.IfaceNil
import Derived.Stop.FmtTextLaws
import GoSem.ClaimData
namespace Go.Proofs.YbulkaieyFmt
open Go.RowKit Go.Extern.Stop Go.Stop Go.Extern

theorem Ybaf.call19 (args : Array Value) (w : World) : (callFunc 19 args).run Ybaf.prog w = ((FmtStop.errorf #[9, 96] #[25] args).run Ybaf.prog w).andThen fun v w' => .ok (.value v) w' :=
  run_callFunc_extern Ybaf.func19 (by kernel_rfl) (by kernel_rfl) (by kernel_rfl) (by kernel_rfl) args w
theorem Ybaf.guard (name : String) (w : World) : (FmtStop.guard name).run Ybaf.prog w = .ok () w := by kernel_rfl
theorem Ybaf.fmt0 : FmtStop.printed? ⟨#[37, 119, 58, 32, 101, 110, 116, 114, 121, 32, 37, 100, 32, 105, 115, 32, 111, 117, 116, 115, 105, 100, 101, 32, 48, 32, 116, 111, 32, 37, 100]⟩ 3 = some [(0, 119, false), (1, 100, false), (2, 100, false)] := by kernel_rfl
theorem Ybaf.fmt0r (w : World) : (FmtDoors.printed ⟨#[37, 119, 58, 32, 101, 110, 116, 114, 121, 32, 37, 100, 32, 105, 115, 32, 111, 117, 116, 115, 105, 100, 101, 32, 48, 32, 116, 111, 32, 37, 100]⟩ 3).run Ybaf.prog w = .ok [(0, 119, false), (1, 100, false), (2, 100, false)] w := by kernel_rfl
theorem Ybaf.fmt1 : FmtStop.printed? ⟨#[110, 111, 32, 104, 111, 115, 116, 32, 37, 113, 32, 105, 110, 32, 116, 104, 101, 32, 101, 120, 101, 99, 117, 116, 105, 111, 110]⟩ 1 = some [(0, 113, false)] := by kernel_rfl
theorem Ybaf.fmt1r (w : World) : (FmtDoors.printed ⟨#[110, 111, 32, 104, 111, 115, 116, 32, 37, 113, 32, 105, 110, 32, 116, 104, 101, 32, 101, 120, 101, 99, 117, 116, 105, 111, 110]⟩ 1).run Ybaf.prog w = .ok [(0, 113, false)] w := by kernel_rfl
def Ybaf.shape3 : List UInt8 := [5, 3, 0, 0, 0, 0, 0, 0, 0, 105, 110, 116]
theorem Ybaf.op3_100w (name : String) (x : Int) (w : World) : (FmtStop.operand name true 100 false (.iface 3 (.int .i64 x))).run Ybaf.prog w = .ok (Ybaf.shape3, Go.Extern.Stop.digits 8 (x % 2 ^ 64).toNat) w := by kernel_rfl
def Ybaf.shape9 : List UInt8 := [12, 6, 0, 0, 0, 0, 0, 0, 0, 115, 116, 114, 105, 110, 103]
theorem Ybaf.op9_113w (name : String) (x : ByteArray) (w : World) : (FmtStop.operand name true 113 false (.iface 9 (.string x))).run Ybaf.prog w = .ok (Ybaf.shape9, FmtStop.pack x.data.toList) w := by kernel_rfl
theorem Ybaf.ptr99 (w : World) : (FmtStop.ptrTo "errors.errorString").run Ybaf.prog w = .ok 99 w := by kernel_rfl
theorem Ybaf.elem99 (w : World) : (elemOf 99).run Ybaf.prog w = .ok 101 w := by kernel_rfl
theorem Ybaf.isError99' (w : World) : (FmtDoors.textMethod 99 "Error").run Ybaf.prog w = .ok true w := by kernel_rfl
theorem Ybaf.ptr98 (w : World) : (FmtStop.ptrTo "fmt.wrapError").run Ybaf.prog w = .ok 98 w := by kernel_rfl
theorem Ybaf.elem98 (w : World) : (elemOf 98).run Ybaf.prog w = .ok 138 w := by kernel_rfl
theorem Ybaf.isError98' (w : World) : (FmtDoors.textMethod 98 "Error").run Ybaf.prog w = .ok true w := by kernel_rfl
/-- The dynamic type's name in a datum that is an interface value. -/
def dynName : DataW Unit → String
  | .iface n _ => n
  | _ => ""
/-- The sentinel's dynamic type's name, out of the given datum. -/
abbrev sentNm : String := dynName Rows.laid_example_com_cutline_cutline_ErrBadStamp
theorem Ybaf.opPlain99_119w (name : String) (a : Addr) (s : ByteArray) (w : World) (hc : w.cell? a = some (.string s)) :
    (FmtStop.operand name true 119 false (.iface 99 (.pointer (some a)))).run Ybaf.prog w = .ok (14 :: FmtStop.pack sentNm.toUTF8.data.toList, s.data.toList) w := by
  have h1 : (typeStr 99).run Ybaf.prog w = .ok sentNm w := by kernel_rfl
  have d2 : Ybaf.t99.desc = .pointer 101 := rfl
  have d3 : Ybaf.t101.desc = .named "errors.errorString" 100 := rfl
  simp [FmtStop.operand, h1, d2, d3, run_load, hc]

attribute [local go_sem] Ybaf.call19 Ybaf.guard Ybaf.fmt0 Ybaf.fmt0r Ybaf.fmt1 Ybaf.fmt1r Ybaf.op3_100w Ybaf.op9_113w Ybaf.ptr99 Ybaf.elem99 Ybaf.isError99' Ybaf.ptr98 Ybaf.elem98 Ybaf.isError98'

set_option maxHeartbeats 1000000 in
theorem errorf_stamp (F : Interp) (v : Int) (a : Addr) (s : ByteArray) (blk : Nat) (w : World) (hF : F.answers w.tape)
    (hc0 : w.cell? ⟨blk, 0, none⟩ = some (.iface 99 (.pointer (some a)))) (hc1 : w.cell? ⟨blk, 1, none⟩ = some (.iface 3 (.int .i64 v))) (hc2 : w.cell? ⟨blk, 2, none⟩ = some (.iface 3 (.int .i64 4611686018427387903)))
    (hs : w.cell? a = some (.string s)) :
    Calls Ybaf.prog 18 #[.string ⟨#[37, 119, 58, 32, 101, 110, 116, 114, 121, 32, 37, 100, 32, 105, 115, 32, 111, 117, 116, 115, 105, 100, 101, 32, 48, 32, 116, 111, 32, 37, 100]⟩, .slice (some ⟨blk, 0, none⟩) 3 3] w fun e w' =>
      e = .returned (.iface 98 (.pointer (some ⟨w.heap.size, 0, none⟩))) ∧ ∃ t, w' = (w.alloc (.cells #[.string t, .iface 99 (.pointer (some a))] 138)).drew := by
  have hF' := hF
  unfold Interp.answers at hF'
  have hop := Ybaf.opPlain99_119w "fmt.errorf" a s w hs
  generalize 14 :: FmtStop.pack sentNm.toUTF8.data.toList = sh at hop
  go_enter Ybaf.func18, Ybaf.ntmps18
  go_wp2
  go_ret
  exact ⟨rfl, _, rfl⟩

set_option maxHeartbeats 1000000 in
theorem errorf_host (F : Interp) (s : ByteArray) (blk : Nat) (w : World) (hF : F.answers w.tape) (hc0 : w.cell? ⟨blk, 0, none⟩ = some (.iface 9 (.string s))) :
    Calls Ybaf.prog 18 #[.string ⟨#[110, 111, 32, 104, 111, 115, 116, 32, 37, 113, 32, 105, 110, 32, 116, 104, 101, 32, 101, 120, 101, 99, 117, 116, 105, 111, 110]⟩, .slice (some ⟨blk, 0, none⟩) 1 1] w fun e w' =>
      e = .returned (.iface 99 (.pointer (some ⟨w.heap.size, 0, none⟩))) ∧ ∃ t, w' = (w.alloc (.cells #[.string t] 101)).drew := by
  have hF' := hF
  unfold Interp.answers at hF'
  go_enter Ybaf.func18, Ybaf.ntmps18
  go_wp2
  go_ret
  exact ⟨rfl, _, rfl⟩
end Go.Proofs.YbulkaieyFmt
