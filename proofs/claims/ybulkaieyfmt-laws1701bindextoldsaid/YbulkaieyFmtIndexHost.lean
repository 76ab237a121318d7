import Derived.Test.YbulkaieyFmtErrorf
import Derived.Maps.Own
import Derived.Maps.OwnSet
namespace Go.Proofs.YbulkaieyFmt
open Go.RowKit Go.Extern.Stop Go.Stop Go.Extern Go.Maps Go.WideMaps Go.WideElems

theorem law : Keyed Ybaf.prog 9 := string_keyed Ybaf.underlying9
theorem zeroE (w : World) : (zeroValue 3).run Ybaf.prog w = .ok (.int .i64 0) w := by kernel_rfl

set_option maxHeartbeats 1000000 in
theorem host_yes (xb B k : Nat) (D : DataW Unit) (q : ByteArray) (w : World) (hx : w.cell? ⟨xb, 1, none⟩ = some (.map (some B))) (hown : w.ownsMap Ybaf.prog 9 (plainElem Ybaf.prog 3) B k D)
    (hq : q.size ≤ maxLen) (hhas : Maps.has D (.string q.data.toList) = true) :
    Calls Ybaf.prog 13 #[.pointer (some ⟨xb, 0, none⟩), .string q] w fun e w' => (∃ c, D.atKey (.string q.data.toList) (.lit (.int .i64 0)) = .lit (.int .i64 c) ∧ e = .returned (.tuple #[.int .i64 c, .nilIface])) ∧ w' = w := by
  have hkey := keyOf_string_mk Ybaf.underlying9 hq
  go_enter Ybaf.func13, Ybaf.ntmps13
  go_wp2_with (first
    | (at_lookup; refine wpList_lookup_own_ok_int _ rfl _ _ 49 rfl 9 3 .i64 law Ybaf.underlying49 Ybaf.underlying3 (zeroE _) B k D rfl hown _ _ rfl hkey ?_; intro c hat hwc))
  go_ret2
  exact ⟨⟨c, hat, rfl⟩, rfl⟩

set_option maxHeartbeats 1000000 in
theorem host_no (F : Interp) (xb B k : Nat) (D : DataW Unit) (q : ByteArray) (w : World) (hF : F.answers w.tape) (hx : w.cell? ⟨xb, 1, none⟩ = some (.map (some B))) (hown : w.ownsMap Ybaf.prog 9 (plainElem Ybaf.prog 3) B k D)
    (hq : q.size ≤ maxLen) (hhas : Maps.has D (.string q.data.toList) = false) :
    Calls Ybaf.prog 13 #[.pointer (some ⟨xb, 0, none⟩), .string q] w fun e w' => (∃ m, e = .returned (.tuple #[.int .i64 0, .iface 99 (.pointer (some ⟨m, 0, none⟩))])) ∧ Below w.heap.size w w' := by
  have hkey := keyOf_string_mk Ybaf.underlying9 hq
  go_enter Ybaf.func13, Ybaf.ntmps13
  go_wp2_with (first
    | (at_lookup; refine wpList_lookup_own_ok_int _ rfl _ _ 49 rfl 9 3 .i64 law Ybaf.underlying49 Ybaf.underlying3 (zeroE _) B k D rfl hown _ _ rfl hkey ?_; intro c hat hwc)
    | (go_at_call 18; refine (errorf_host F q _ _ (by exact hF) (by rw [World.cell?_alloc_at (hn := by simp)]; rfl)).mono ?_; rintro e w' ⟨rfl, t, rfl⟩))
  go_ret2
  exact ⟨⟨_, rfl⟩, (((Below.refl _ _).alloc (Nat.le_refl _) _).alloc (by simp) _).drew⟩
end Go.Proofs.YbulkaieyFmt
