import Derived.Test.YbulkaigaFmtRows
import Derived.Test.YbulkaigaFmtAppend
import Derived.WalkKit
import Derived.WalkSpells
import Derived.WalkLawsBesides
import Derived.WalkSmall
import Derived.Deep.QuietTactic
import Derived.BigQuiet
import Derived.Lib.EndianBits
namespace Go.Proofs.YbulkaigaFmt
open Go.RowKit

set_option maxRecDepth 100000 in
set_option maxHeartbeats 2000000 in
theorem uint16_any (g o n c : Nat) (x y : Int) (w : World) (hn : 2 ≤ n) (hg : g < w.heap.size) (x0 : 0 ≤ x) (x1 : x ≤ 255) (y0 : 0 ≤ y) (y1 : y ≤ 255)
    (c0 : w.cell? ⟨g, o, none⟩ = some (.int .u8 x)) (c1 : w.cell? ⟨g, o + 1, none⟩ = some (.int .u8 y)) :
    Calls Ybaf.prog 24 #[.agg #[], .slice (some ⟨g, o, none⟩) n c] w fun e w' => e = .returned (.int .u16 (x * 256 + y)) ∧ ∃ k, w' = (w.alloc (.cells #[] 80)).drewN k := by
  have h0 : (0 : Int) < (n : Int) := by omega
  have h1 : (1 : Int) < (n : Int) := by omega
  have hn0 : 0 < n := by omega
  have hn1 : 1 < n := by omega
  go_enter Ybaf.func24, Ybaf.ntmps24
  go_wp2_with fail
  go_quiet (fail)
  go_wp2_with fail
  go_ret
  refine ⟨?_, _, rfl⟩
  show Ending.returned (Value.int .u16 _) = _
  congr 2
  simp (disch := omega) only [u16_or8]
  omega

set_option maxRecDepth 100000 in
set_option maxHeartbeats 2000000 in
theorem uint32_any (g o n c : Nat) (x y z t : Int) (w : World) (hn : 4 ≤ n) (hg : g < w.heap.size) (x0 : 0 ≤ x) (x1 : x ≤ 255) (y0 : 0 ≤ y) (y1 : y ≤ 255) (z0 : 0 ≤ z) (z1 : z ≤ 255) (t0 : 0 ≤ t) (t1 : t ≤ 255)
    (c0 : w.cell? ⟨g, o, none⟩ = some (.int .u8 x)) (c1 : w.cell? ⟨g, o + 1, none⟩ = some (.int .u8 y)) (c2 : w.cell? ⟨g, o + 2, none⟩ = some (.int .u8 z)) (c3 : w.cell? ⟨g, o + 3, none⟩ = some (.int .u8 t)) :
    Calls Ybaf.prog 54 #[.agg #[], .slice (some ⟨g, o, none⟩) n c] w fun e w' => e = .returned (.int .u32 (x * 16777216 + y * 65536 + z * 256 + t)) ∧ ∃ k, w' = (w.alloc (.cells #[] 80)).drewN k := by
  have h0 : (0 : Int) < (n : Int) := by omega
  have h1 : (1 : Int) < (n : Int) := by omega
  have h2 : (2 : Int) < (n : Int) := by omega
  have h3 : (3 : Int) < (n : Int) := by omega
  have hn0 : 0 < n := by omega
  have hn1 : 1 < n := by omega
  have hn2 : 2 < n := by omega
  have hn3 : 3 < n := by omega
  go_enter Ybaf.func54, Ybaf.ntmps54
  go_wp2_with fail
  go_quiet (fail)
  go_wp2_with fail
  go_ret
  refine ⟨?_, _, rfl⟩
  show Ending.returned (Value.int .u32 _) = _
  congr 2
  simp (disch := omega) only [u32_or8, u32_or16, u32_or24]
  omega

theorem Ybaf.info5 : Ybaf.prog.info? 5 = some Ybaf.t5 := by kernel_rfl
/-- A number's bytes, the greatest first. -/
def be16 (x : Int) : List Int := [x / 256, x % 256]
def be32 (x : Int) : List Int := [x / 16777216, x / 65536 % 256, x / 256 % 256, x % 256]
/-- Bytes as cells. -/
def bcells (l : List Int) : List Value := l.map fun z => Value.int .u8 z
theorem bcells_append (a b : List Int) : bcells (a ++ b) = bcells a ++ bcells b := by simp [bcells]
theorem bcells_length (a : List Int) : (bcells a).length = a.length := by simp [bcells]
theorem bcells_one (l : List Int) : ∀ u ∈ bcells l, u.oneCell' = true := by
  intro u hu
  simp [bcells] at hu
  obtain ⟨z, _, rfl⟩ := hu
  rfl

set_option maxRecDepth 100000 in
set_option maxHeartbeats 2000000 in
theorem append32_any (base n : Nat) (x : Int) (v : Value) (l : List Int) (w : World) (x0 : 0 ≤ x) (x1 : x ≤ 4294967295) (hn : n ≤ 1000000) (hb : base ≤ w.heap.size) (hown : w.ownsRow base 5 1 v n (bcells l)) :
    Calls Ybaf.prog 21 #[.agg #[], v, .int .u32 x] w fun e w' => ∃ g cap, e = .returned (.slice (some ⟨g, 0, none⟩) (n + 4) cap) ∧ w'.ownsRow base 5 1 (.slice (some ⟨g, 0, none⟩) (n + 4) cap) (n + 4) (bcells (l ++ be32 x)) ∧ w.grownBy w' v.ownBlock := by
  have ho2 := (hown.alloc (.cells #[] 80)).alloc (.cells #[.int .u8 (x / 16777216), .int .u8 (x / 65536 % 256), .int .u8 (x / 256 % 256), .int .u8 (x % 256)] 5)
  clear hown
  go_enter Ybaf.func21, Ybaf.ntmps21
  go_wp2_with (first
    | (at_builtin; go_must (refine wpList_append_lies _ rfl _ _ _ rfl base 5 Ybaf.t5 (.int .u8 0) 1 1 Ybaf.underlying31 Ybaf.info5 rfl rfl rfl rfl (by omega) v n (bcells l) rfl ho2 ⟨w.heap.size + 1, 0, none⟩ 4 4 [.int .u8 (x / 16777216), .int .u8 (x / 65536 % 256), .int .u8 (x / 256 % 256), .int .u8 (x % 256)] rfl rfl (World.news_of_block (by rw [← World.size_alloc w (.cells #[] 80)]; exact heap_alloc_new _ _)) (by simp [Value.oneCell']) (by omega) (by unfold maxLen; omega) (by omega) (by simp; omega) (w.heap.size + 1 + 1) (by simp) ?_); intro g cap w1 hown1 hgrow hat1 hlt1))
  go_ret
  refine ⟨g, cap, rfl, by rw [bcells_append]; exact hown1, ?_⟩
  exact (World.grownBy_alloc w _ v.ownBlock).andThen ((World.grownBy_alloc _ _ v.ownBlock).andThen hgrow (fun _ h => Or.inr h)) (fun _ h => Or.inr h)

set_option maxRecDepth 100000 in
set_option maxHeartbeats 2000000 in
theorem append16_any (base n : Nat) (x : Int) (v : Value) (l : List Int) (w : World) (x0 : 0 ≤ x) (x1 : x ≤ 65535) (hn : n ≤ 1000000) (hb : base ≤ w.heap.size) (hown : w.ownsRow base 5 1 v n (bcells l)) :
    Calls Ybaf.prog 22 #[.agg #[], v, .int .u16 x] w fun e w' => ∃ g cap, e = .returned (.slice (some ⟨g, 0, none⟩) (n + 2) cap) ∧ w'.ownsRow base 5 1 (.slice (some ⟨g, 0, none⟩) (n + 2) cap) (n + 2) (bcells (l ++ be16 x)) ∧ w.grownBy w' v.ownBlock := by
  have ho2 := (hown.alloc (.cells #[] 80)).alloc (.cells #[.int .u8 (x / 256), .int .u8 (x % 256)] 5)
  clear hown
  go_enter Ybaf.func22, Ybaf.ntmps22
  go_wp2_with (first
    | (at_builtin; go_must (refine wpList_append_lies _ rfl _ _ _ rfl base 5 Ybaf.t5 (.int .u8 0) 1 1 Ybaf.underlying31 Ybaf.info5 rfl rfl rfl rfl (by omega) v n (bcells l) rfl ho2 ⟨w.heap.size + 1, 0, none⟩ 2 2 [.int .u8 (x / 256), .int .u8 (x % 256)] rfl rfl (World.news_of_block (by rw [← World.size_alloc w (.cells #[] 80)]; exact heap_alloc_new _ _)) (by simp [Value.oneCell']) (by omega) (by unfold maxLen; omega) (by omega) (by simp; omega) (w.heap.size + 1 + 1) (by simp) ?_); intro g cap w1 hown1 hgrow hat1 hlt1))
  go_ret
  refine ⟨g, cap, rfl, by rw [bcells_append]; exact hown1, ?_⟩
  exact (World.grownBy_alloc w _ v.ownBlock).andThen ((World.grownBy_alloc _ _ v.ownBlock).andThen hgrow (fun _ h => Or.inr h)) (fun _ h => Or.inr h)
end Go.Proofs.YbulkaigaFmt
