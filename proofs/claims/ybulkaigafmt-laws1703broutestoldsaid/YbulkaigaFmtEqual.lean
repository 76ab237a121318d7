import Derived.Test.YbulkaigaFmtASPath
namespace Go.Proofs.YbulkaigaFmt
open Go.RowKit

set_option maxRecDepth 100000 in
set_option maxHeartbeats 4000000 in
theorem equal_any (ga oa ca gb ob cb n : Nat) (l : List Int) (w : World) (hl : l.length = n) (hn : n ≤ 63) (ha : ∀ i x, l[i]? = some x → w.cell? ⟨ga, oa + i, none⟩ = some (.int .u32 x)) (hb : ∀ i x, l[i]? = some x → w.cell? ⟨gb, ob + i, none⟩ = some (.int .u32 x)) :
    Calls Ybaf.prog 17 #[.slice (some ⟨ga, oa, none⟩) n ca, .slice (some ⟨gb, ob, none⟩) n cb] w fun e w' => e = .returned (.bool true) ∧ ∃ k, w' = w.drewN k := by
  have Ha : Hid (∀ i x, l[i]? = some x → w.cell? ⟨ga, oa + i, none⟩ = some (.int .u32 x)) := ha
  have Hb : Hid (∀ i x, l[i]? = some x → w.cell? ⟨gb, ob + i, none⟩ = some (.int .u32 x)) := hb
  have Hl : Hid (l.length = n) := hl
  clear ha hb hl
  have h0 : ((n : Int) != (n : Int)) = false := by simp
  go_enter Ybaf.func17, Ybaf.ntmps17
  go_wp2_with fail
  go_loopw [13] (fun i wr => ∃ (k q : Nat), k ≤ n ∧ i = .int .i64 k ∧ wr = w.drewN q) (fun i _ => n - (intOf i).toNat)
  case atStart => exact ⟨0, 0, Nat.zero_le _, rfl, rfl⟩
  case round =>
    obtain ⟨k, q, hk, rfl, rfl⟩ := hrel
    by_cases hlt : k < n
    · obtain ⟨x, hx⟩ : ∃ x, l[k]? = some x := ⟨_, List.getElem?_eq_getElem (by have := Hl.out; omega)⟩
      have c1 := Ha.out k x hx
      have c2 := Hb.out k x hx
      have i1 : (k : Int) < (n : Int) := by omega
      have h1 : (x != x) = false := by simp
      clear hx
      go_wp2_with fail
      go_quiet (fail)
      go_wp2_with fail
      go_roundw
      case rel => exact ⟨k + 1, _, by omega, by go_num, rfl⟩
      case measure => simp [intOf]; omega
    · obtain rfl : k = n := by omega
      go_wp2_with fail
      go_ret
      exact ⟨rfl, _, rfl⟩
end Go.Proofs.YbulkaigaFmt
