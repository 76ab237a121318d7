import Derived.Test.YbulkaigaFmtRows
import Derived.WalkKit
import Derived.WalkSpells
import Derived.WalkLawsBesides
import Derived.Stop.CallBack
import Derived.Stop.IfaceNil
import Derived.Stop.FmtTextLaws
import GoSem.ClaimData
namespace Go.Proofs.YbulkaigaFmt
open Go.RowKit Go.Extern.Stop Go.Stop Go.Extern

theorem Ybaf.call29 (args : Array Value) (w : World) : (callFunc 29 args).run Ybaf.prog w = ((FmtStop.errorf #[9, 91] #[23] args).run Ybaf.prog w).andThen fun v w' => .ok (.value v) w' :=
  run_callFunc_extern Ybaf.func29 (by kernel_rfl) (by kernel_rfl) (by kernel_rfl) (by kernel_rfl) args w
theorem Ybaf.guard (name : String) (w : World) : (FmtStop.guard name).run Ybaf.prog w = .ok () w := by kernel_rfl
theorem Ybaf.fmt0 : FmtStop.printed? ⟨#[112, 114, 101, 102, 105, 120, 32, 108, 101, 110, 103, 116, 104, 32, 37, 100, 44, 32, 108, 111, 110, 103, 101, 114, 32, 116, 104, 97, 110, 32, 37, 100]⟩ 2 = some [(0, 100, false), (1, 100, false)] := by kernel_rfl
theorem Ybaf.fmt0r (w : World) : (FmtDoors.printed ⟨#[112, 114, 101, 102, 105, 120, 32, 108, 101, 110, 103, 116, 104, 32, 37, 100, 44, 32, 108, 111, 110, 103, 101, 114, 32, 116, 104, 97, 110, 32, 37, 100]⟩ 2).run Ybaf.prog w = .ok [(0, 100, false), (1, 100, false)] w := by kernel_rfl
def Ybaf.shape3 : List UInt8 := [5, 3, 0, 0, 0, 0, 0, 0, 0, 105, 110, 116]
theorem Ybaf.op3_100w (name : String) (x : Int) (w : World) : (FmtStop.operand name true 100 false (.iface 3 (.int .i64 x))).run Ybaf.prog w = .ok (Ybaf.shape3, Go.Extern.Stop.digits 8 (x % 2 ^ 64).toNat) w := by kernel_rfl
theorem Ybaf.ptr93 (w : World) : (FmtStop.ptrTo "errors.errorString").run Ybaf.prog w = .ok 93 w := by kernel_rfl
theorem Ybaf.elem93 (w : World) : (elemOf 93).run Ybaf.prog w = .ok 95 w := by kernel_rfl
theorem Ybaf.isError93' (w : World) : (FmtDoors.textMethod 93 "Error").run Ybaf.prog w = .ok true w := by kernel_rfl

attribute [local go_sem] Ybaf.call29 Ybaf.guard Ybaf.fmt0 Ybaf.fmt0r Ybaf.op3_100w Ybaf.ptr93 Ybaf.elem93 Ybaf.isError93'

set_option maxHeartbeats 1000000 in
theorem errorf_prefix (F : Interp) (x y : Int) (blk : Nat) (w : World) (hF : F.answers w.tape)
    (hc0 : w.cell? ⟨blk, 0, none⟩ = some (.iface 3 (.int .i64 x))) (hc1 : w.cell? ⟨blk, 1, none⟩ = some (.iface 3 (.int .i64 y))) :
    Calls Ybaf.prog 20 #[.string ⟨#[112, 114, 101, 102, 105, 120, 32, 108, 101, 110, 103, 116, 104, 32, 37, 100, 44, 32, 108, 111, 110, 103, 101, 114, 32, 116, 104, 97, 110, 32, 37, 100]⟩, .slice (some ⟨blk, 0, none⟩) 2 2] w fun e w' =>
      e = .returned (.iface 93 (.pointer (some ⟨w.heap.size, 0, none⟩))) ∧ ∃ t, w' = (w.alloc (.cells #[.string t] 95)).drew := by
  have hF' := hF
  unfold Interp.answers at hF'
  go_enter Ybaf.func20, Ybaf.ntmps20
  go_wp2
  go_ret
  exact ⟨rfl, _, rfl⟩

set_option maxHeartbeats 1000000 in
theorem check_long (F : Interp) (x y : Int) (w : World) (hF : F.answers w.tape) (h : y < x) :
    Calls Ybaf.prog 9 #[.int .i64 x, .int .i64 y] w fun e w' => (∃ k, e = .returned (.iface 93 (.pointer (some ⟨k, 0, none⟩)))) ∧ Below w.heap.size w w' := by
  go_enter Ybaf.func9, Ybaf.ntmps9
  go_wp2_with (go_at_call 20; refine (errorf_prefix F x y _ _ (by exact hF) (by rw [World.cell?_alloc_at (hn := by simp)]; rfl) (by rw [World.cell?_alloc_at (hn := by simp)]; rfl)).mono ?_; rintro e w' ⟨rfl, t, rfl⟩)
  go_ret
  exact ⟨⟨_, rfl⟩, (((Below.refl _ _).alloc (Nat.le_refl _) _).alloc (by simp) _).drew⟩

set_option maxHeartbeats 1000000 in
theorem check_fits (x y : Int) (w : World) (h : x ≤ y) :
    Calls Ybaf.prog 9 #[.int .i64 x, .int .i64 y] w fun e w' => e = .returned .nilIface ∧ w' = w := by
  go_enter Ybaf.func9, Ybaf.ntmps9
  go_wp2
  go_ret
  exact ⟨rfl, rfl⟩

set_option maxHeartbeats 1000000 in
theorem lawExact_any (F : Interp) (x y : Int) (w : World) (hF : F.answers w.tape) :
    Calls Ybaf.prog 3 #[.int .i64 x, .int .i64 y] w fun e w' => e = .returned (.bool true) ∧ Below w.heap.size w w' := by
  by_cases h : y < x
  · go_enter Ybaf.func3, Ybaf.ntmps3
    go_wp2_with fail
    refine (check_long F x y w hF h).mono ?_
    rintro e w' ⟨⟨k, rfl⟩, hB⟩
    go_wp2_with fail
    go_ret
    exact ⟨rfl, hB⟩
  · go_enter Ybaf.func3, Ybaf.ntmps3
    go_wp2_with fail
    refine (check_fits x y w (by omega)).mono ?_
    rintro e w' ⟨rfl, rfl⟩
    go_wp2_with fail
    go_ret
    exact ⟨by simp [h], Below.refl _ _⟩

set_option maxHeartbeats 1000000 in
theorem lawFamilies_any (F : Interp) (x : Int) (u : Bool) (w : World) (hF : F.answers w.tape) (h0 : 0 ≤ x) (h1 : x ≤ 255) :
    Calls Ybaf.prog 4 #[.int .u8 x, .bool u] w fun e w' => e = .returned (.bool true) ∧ Below w.heap.size w w' := by
  cases u
  · by_cases h : 32 < x
    · go_enter Ybaf.func4, Ybaf.ntmps4
      go_wp2_with fail
      refine (check_long F x 32 w hF h).mono ?_
      rintro e w' ⟨⟨k, rfl⟩, hB⟩
      go_wp2_with fail
      go_ret
      exact ⟨rfl, hB⟩
    · go_enter Ybaf.func4, Ybaf.ntmps4
      go_wp2_with fail
      refine (check_fits x 32 w (by omega)).mono ?_
      rintro e w' ⟨rfl, rfl⟩
      go_wp2_with fail
      go_ret
      exact ⟨rfl, Below.refl _ _⟩
  · by_cases h : 128 < x
    · go_enter Ybaf.func4, Ybaf.ntmps4
      go_wp2_with fail
      refine (check_long F x 128 w hF h).mono ?_
      rintro e w' ⟨⟨k, rfl⟩, hB⟩
      go_wp2_with fail
      go_ret
      exact ⟨rfl, hB⟩
    · go_enter Ybaf.func4, Ybaf.ntmps4
      go_wp2_with fail
      refine (check_fits x 128 w (by omega)).mono ?_
      rintro e w' ⟨rfl, rfl⟩
      go_wp2_with fail
      go_ret
      exact ⟨rfl, Below.refl _ _⟩
end Go.Proofs.YbulkaigaFmt
