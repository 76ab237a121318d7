import Derived.Test.YbulkaieyFmtRows
import Derived.Test.YbulkaieyFmtIndexPlain
import Derived.WalkKit
import Derived.WalkSpells
import Derived.WalkLawsBesides
import Derived.Deep.QuietTactic
import Derived.BigQuiet
namespace Go.Proofs.YbulkaieyFmt
open Go.RowKit

theorem str_ne {a b : ByteArray} (h : a ≠ b) : (a.toList == b.toList) = false := by
  rw [beq_eq_false_iff_ne]
  intro e
  apply h
  rw [ByteArray.toList_eq, ByteArray.toList_eq] at e
  cases a; cases b
  simp only at e
  exact congrArg _ (Array.ext' e)
theorem str_eq {a b : ByteArray} (h : a = b) : (a.toList == b.toList) = true := by
  rw [h]; simp

set_option maxHeartbeats 1000000 in
theorem want_any (p : Option Addr) (n cap : Nat) (f : Nat → ByteArray) (q : ByteArray) (w : World) (hn : n ≤ 1024) (hp : ∀ k, k < n → ∃ b off, p = some ⟨b, off, none⟩ ∧ w.cell? ⟨b, off + k, none⟩ = some (.string (f k))) :
    Calls Ybaf.prog 12 #[.slice p n cap, .string q] w fun e w' => ∃ r, e = .returned (.int .i64 r) ∧ Wanted f n q r ∧ ∃ k, w' = w.drewN k := by
  have Hp : Hid (∀ k, k < n → ∃ b off, p = some ⟨b, off, none⟩ ∧ w.cell? ⟨b, off + k, none⟩ = some (.string (f k))) := hp
  clear hp
  go_enter Ybaf.func12, Ybaf.ntmps12
  go_wp2_with fail
  go_loopw [5] (fun i wr => ∃ j nq : Nat, j ≤ n ∧ i = .int .i64 j ∧ wr = w.drewN nq ∧ Hid (∀ x, x < j → f x ≠ q)) (fun i _ => n - (intOf i).toNat)
  case atStart => exact ⟨0, 0, Nat.zero_le _, rfl, rfl, fun x hx => absurd hx (Nat.not_lt_zero _)⟩
  case round =>
    obtain ⟨j, nq, hj, rfl, rfl, Hne⟩ := hrel
    by_cases hlt : j < n
    · obtain ⟨b, off, rfl, hc⟩ := Hp.out j hlt
      have hcd : ∀ m, (w.drewN m).cell? ⟨b, off + j, none⟩ = some (.string (f j)) := fun _ => hc
      clear hc
      by_cases hq : f j = q
      · have hbq := str_eq hq
        have Hq : Hid (f j = q) := hq
        clear hq
        go_wp2_with fail
        clear hbq
        go_loopw [6, 7] (fun d i wr => ∃ a nq : Nat, a ≤ j ∧ i = .int .i64 a ∧ d = .int .i64 (dist f a : Int) ∧ wr = w.drewN nq) (fun _ i _ => j - (intOf i).toNat)
        case atStart => exact ⟨0, nq, Nat.zero_le _, rfl, rfl, rfl⟩
        case round =>
          obtain ⟨a, nq2, ha, rfl, rfl, rfl⟩ := hrel
          by_cases hla : a < j
          · obtain ⟨b', off', e', hc'⟩ := Hp.out a (by omega)
            have hca : w.cell? ⟨b, off + a, none⟩ = some (.string (f a)) := by
              cases e'; exact hc'
            have hcda : ∀ m, (w.drewN m).cell? ⟨b, off + a, none⟩ = some (.string (f a)) := fun _ => hca
            clear hca hc' e' hcd
            have hda := dist_le f a
            go_wp2_with fail
            go_loopw [8, 9] (fun sn i wr => ∃ y nq : Nat, y ≤ a ∧ sn = .bool false ∧ i = .int .i64 y ∧ wr = w.drewN nq ∧ Hid (∀ x, x < y → f x ≠ f a)) (fun _ i _ => a - (intOf i).toNat)
            case atStart => exact ⟨0, nq2, Nat.zero_le _, rfl, rfl, rfl, fun x hx => absurd hx (Nat.not_lt_zero _)⟩
            case round =>
              obtain ⟨y, nq3, hy, rfl, rfl, rfl, Hy⟩ := hrel
              by_cases hly : y < a
              · obtain ⟨b', off', e', hc'⟩ := Hp.out y (by omega)
                have hcy : w.cell? ⟨b, off + y, none⟩ = some (.string (f y)) := by
                  cases e'; exact hc'
                have hcdy : ∀ m, (w.drewN m).cell? ⟨b, off + y, none⟩ = some (.string (f y)) := fun _ => hcy
                clear hcy hc' e'
                have hyn : y < n := by omega
                have han : a < n := by omega
                by_cases hya : f y = f a
                · have hbe := str_eq hya
                  have Hd : Hid (dist f (a + 1) = dist f a) := dist_seen (seenB_true hly hya)
                  clear hya
                  go_wp2_with fail
                  go_quiet (fail)
                  go_wp2_with fail
                  go_roundw
                  case rel => exact ⟨a + 1, _, by omega, by go_num, by rw [Hd.out], rfl⟩
                  case measure => simp [intOf]; omega
                · have hbe := str_ne hya
                  have Hya : Hid (f y ≠ f a) := hya
                  clear hya
                  go_wp2_with fail
                  go_quiet (fail)
                  go_wp2_with fail
                  go_roundw
                  case rel =>
                    refine ⟨y + 1, _, by omega, rfl, by go_num, rfl, ?_⟩
                    intro x hx
                    by_cases hxy : x = y
                    · subst hxy; exact Hya.out
                    · exact Hy.out x (by omega)
                  case measure => simp [intOf]; omega
              · obtain rfl : y = a := by omega
                have Hd : Hid (dist f (y + 1) = dist f y + 1) := dist_new (seenB_false Hy.out)
                go_wp2_with fail
                go_roundw
                case rel => exact ⟨y + 1, _, by omega, by go_num, by rw [Hd.out]; go_num, rfl⟩
                case measure => simp [intOf]; omega
          · obtain rfl : a = j := by omega
            go_wp2_with fail
            go_ret
            exact ⟨_, rfl, Or.inl ⟨a, hlt, Hq.out, Hne.out, rfl⟩, _, rfl⟩
      · have hbq := str_ne hq
        have Hq : Hid (f j ≠ q) := hq
        clear hq
        go_wp2_with fail
        go_roundw
        case rel =>
          refine ⟨j + 1, nq, by omega, by go_num, rfl, ?_⟩
          intro x hx
          by_cases hxj : x = j
          · subst hxj; exact Hq.out
          · exact Hne.out x (by omega)
        case measure => simp [intOf]; omega
    · go_wp2_with fail
      go_ret
      exact ⟨_, rfl, Or.inr ⟨fun i hi => Hne.out i (by omega), rfl⟩, _, rfl⟩
end Go.Proofs.YbulkaieyFmt
