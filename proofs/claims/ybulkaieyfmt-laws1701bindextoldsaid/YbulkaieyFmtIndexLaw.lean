import Derived.Test.YbulkaieyFmtIndexBuild
import Derived.WalkSmall
namespace Go.Proofs.YbulkaieyFmt
open Go.RowKit Go.Extern.Stop Go.Stop Go.Extern Go.Maps Go.WideMaps Go.WideElems

/-- What the walks ask of the slice of names. -/
def Names (p : Option Addr) (n : Nat) (f : Nat → ByteArray) (w : World) : Prop :=
  ∀ k, k < n → ∃ b off, p = some ⟨b, off, none⟩ ∧ b < w.heap.size ∧ (f k).size ≤ maxLen ∧ w.cell? ⟨b, off + k, none⟩ = some (.string (f k))

theorem Names.below {p : Option Addr} {n : Nat} {f : Nat → ByteArray} {w w' : World} (h : Names p n f w) (hB : Below w.heap.size w w') : ∀ k, k < n → ∃ b off, p = some ⟨b, off, none⟩ ∧ w'.cell? ⟨b, off + k, none⟩ = some (.string (f k)) := by
  intro k hk
  obtain ⟨b, off, e, hb, _, hc⟩ := h k hk
  exact ⟨b, off, e, (hB.cell (p := ⟨b, off + k, none⟩) hb).trans hc⟩

/-- host(q), where zzs1701bwant gives r: told by r. -/
theorem host_all (F : Interp) (xb B n : Nat) (D : DataW Unit) (f : Nat → ByteArray) (q : ByteArray) (r : Int) (w : World) (hF : F.answers w.tape) (hx : w.cell? ⟨xb, 1, none⟩ = some (.map (some B))) (hown : w.ownsMap Ybaf.prog 9 (plainElem Ybaf.prog 3) B n D)
    (hq : q.size ≤ maxLen) (hinv : MapInv f n D) (hw : Wanted f n q r) :
    Calls Ybaf.prog 13 #[.pointer (some ⟨xb, 0, none⟩), .string q] w fun e w' => ((0 ≤ r ∧ e = .returned (.tuple #[.int .i64 r, .nilIface])) ∨ (r = -1 ∧ ∃ m, e = .returned (.tuple #[.int .i64 0, .iface 99 (.pointer (some ⟨m, 0, none⟩))]))) ∧ Below w.heap.size w w' := by
  rcases hinv q with ⟨j, hj, hfj, hne, hyes, hat⟩ | ⟨hne, hno⟩
  · have hr : r = (dist f j : Int) := by
      rcases hw with ⟨i, hi, hfi, hni, e⟩ | ⟨hno, _⟩
      · rcases Nat.lt_trichotomy i j with h | h | h
        · exact absurd hfi (hne i h)
        · rw [e, h]
        · exact absurd hfj (hni j h)
      · exact absurd hfj (hno j hj)
    refine (host_yes xb B n D q w hx hown hq hyes).mono ?_
    rintro e w' ⟨⟨c, hc, rfl⟩, rfl⟩
    rw [hat] at hc
    injection hc with hc
    injection hc with _ hc
    refine ⟨Or.inl ⟨by omega, ?_⟩, Below.refl _ _⟩
    rw [hr, hc]
  · have hr : r = -1 := by
      rcases hw with ⟨i, hi, hfi, _, _⟩ | ⟨_, e⟩
      · exact absurd hfi (hne i hi)
      · exact e
    refine (host_no F xb B n D q w hF hx hown hq hno).mono ?_
    rintro e w' ⟨⟨m, rfl⟩, hB⟩
    exact ⟨Or.inr ⟨hr, m, rfl⟩, hB⟩

set_option maxRecDepth 100000 in
set_option maxHeartbeats 1000000 in
theorem index_raw (F : Interp) (p : Option Addr) (n cap : Nat) (f : Nat → ByteArray) (raw : ByteArray) (pk : Int) (w : World) (hF : F.answers w.tape) (hn : n ≤ 1024) (hp : Names p n f w) (hraw : raw.size ≤ maxLen) :
    Calls Ybaf.prog 5 #[.slice p n cap, .string raw, .int .u8 pk, .bool false] w fun e w' => e = .returned (.bool true) ∧ Below w.heap.size w w' := by
  have Hp : Hid (Names p n f w) := hp
  clear hp
  go_enter Ybaf.func5, Ybaf.ntmps5
  go_wp2_with fail
  refine (build_any p n cap f w hn Hp.out).mono ?_
  rintro e w1 ⟨rfl, hB1, hx1, D, hinv, hown⟩
  have Hinv : Hid (MapInv f n D) := hinv
  clear hinv
  go_wp2_with fail
  refine (want_any p n cap f raw w1 hn (Hp.out.below hB1)).mono ?_
  rintro e w2 ⟨r, rfl, hw, m, rfl⟩
  have Hw : Hid (Wanted f n raw r) := hw
  clear hw
  go_wp2_with fail
  refine (host_all F _ w.heap.size n D f raw r _ ?_ ?_ ?_ hraw Hinv.out Hw.out).mono ?_
  · show F.answers w1.tape
    rw [hB1.tape]; exact hF
  · exact hx1
  · exact hown
  rintro e w3 ⟨he, hB3⟩
  have hBf : Below w.heap.size w w3 := (below_drewN hB1 m).trans (hB3.mono (by show _ ≤ w1.heap.size; exact hB1.size))
  rcases he with ⟨h0, rfl⟩ | ⟨rfl, mm, rfl⟩
  · go_wp2_with fail
    go_ret
    exact ⟨rfl, hBf⟩
  · go_wp2_with fail
    go_ret
    exact ⟨rfl, hBf⟩
set_option maxRecDepth 100000 in
set_option maxHeartbeats 1000000 in
theorem index_empty (F : Interp) (p : Option Addr) (cap : Nat) (f : Nat → ByteArray) (raw : ByteArray) (pk : Int) (w : World) (hF : F.answers w.tape) (hp : Names p 0 f w) (hraw : raw.size ≤ maxLen) :
    Calls Ybaf.prog 5 #[.slice p 0 cap, .string raw, .int .u8 pk, .bool true] w fun e w' => e = .returned (.bool true) ∧ Below w.heap.size w w' := by
  have Hp : Hid (Names p 0 f w) := hp
  clear hp
  go_enter Ybaf.func5, Ybaf.ntmps5
  go_wp2_with fail
  refine (build_any p 0 cap f w (by omega) Hp.out).mono ?_
  rintro e w1 ⟨rfl, hB1, hx1, D, hinv, hown⟩
  have Hinv : Hid (MapInv f 0 D) := hinv
  clear hinv
  go_wp2_with fail
  refine (want_any p 0 cap f raw w1 (by omega) (Hp.out.below hB1)).mono ?_
  rintro e w2 ⟨r, rfl, hw, m, rfl⟩
  have Hw : Hid (Wanted f 0 raw r) := hw
  clear hw
  go_wp2_with fail
  refine (host_all F _ w.heap.size 0 D f raw r _ ?_ ?_ ?_ hraw Hinv.out Hw.out).mono ?_
  · show F.answers w1.tape
    rw [hB1.tape]; exact hF
  · exact hx1
  · exact hown
  rintro e w3 ⟨he, hB3⟩
  have hBf : Below w.heap.size w w3 := (below_drewN hB1 m).trans (hB3.mono (by show _ ≤ w1.heap.size; exact hB1.size))
  rcases he with ⟨h0, rfl⟩ | ⟨rfl, mm, rfl⟩
  · go_wp2_with fail
    go_ret
    exact ⟨rfl, hBf⟩
  · go_wp2_with fail
    go_ret
    exact ⟨rfl, hBf⟩
set_option maxRecDepth 100000 in
set_option maxHeartbeats 1000000 in
theorem index_pick (F : Interp) (p : Option Addr) (n cap : Nat) (f : Nat → ByteArray) (raw : ByteArray) (pk : Nat) (w : World) (hF : F.answers w.tape) (hpk : pk ≤ 255) (h0 : 0 < n) (hn : n ≤ 1024) (hp : Names p n f w) :
    Calls Ybaf.prog 5 #[.slice p n cap, .string raw, .int .u8 pk, .bool true] w fun e w' => e = .returned (.bool true) ∧ Below w.heap.size w w' := by
  have Hp : Hid (Names p n f w) := hp
  have hlt : pk % n < n := Nat.mod_lt _ h0
  obtain ⟨b, off, rfl, hb, hraw, hc⟩ := hp (pk % n) hlt
  clear hp
  generalize hq : f (pk % n) = q at hc hraw
  clear hq
  have hi0 : 0 ≤ (pk : Int) % (n : Int) := Int.emod_nonneg _ (by omega)
  have hi1 : (pk : Int) % (n : Int) < (n : Int) := Int.emod_lt_of_pos _ (by omega)
  clear hlt
  go_enter Ybaf.func5, Ybaf.ntmps5
  go_wp2_with fail
  refine (build_any _ n cap f w hn Hp.out).mono ?_
  rintro e w1 ⟨rfl, hB1, hx1, D, hinv, hown⟩
  have Hinv : Hid (MapInv f n D) := hinv
  clear hinv
  go_wp2_with fail
  refine (want_any _ n cap f q w1 hn (Hp.out.below hB1)).mono ?_
  rintro e w2 ⟨r, rfl, hw, m, rfl⟩
  have Hw : Hid (Wanted f n q r) := hw
  clear hw
  go_wp2_with fail
  refine (host_all F _ w.heap.size n D f q r _ ?_ ?_ ?_ hraw Hinv.out Hw.out).mono ?_
  · show F.answers w1.tape
    rw [hB1.tape]; exact hF
  · exact hx1
  · exact hown
  rintro e w3 ⟨he, hB3⟩
  have hBf : Below w.heap.size w w3 := (below_drewN hB1 m).trans (hB3.mono (by show _ ≤ w1.heap.size; exact hB1.size))
  rcases he with ⟨h0, rfl⟩ | ⟨rfl, mm, rfl⟩
  · go_wp2_with fail
    go_ret
    exact ⟨rfl, hBf⟩
  · go_wp2_with fail
    go_ret
    exact ⟨rfl, hBf⟩

set_option maxHeartbeats 1000000 in
theorem index_far (p : Option Addr) (n cap : Nat) (raw : ByteArray) (pk : Int) (u : Bool) (w : World) (hn : 1024 < n) (hm : n ≤ maxLen) :
    Calls Ybaf.prog 5 #[.slice p n cap, .string raw, .int .u8 pk, .bool u] w fun e w' => e = .returned (.bool true) ∧ Below w.heap.size w w' := by
  unfold maxLen at hm
  go_enter Ybaf.func5, Ybaf.ntmps5
  go_wp2_with fail
  go_ret
  exact ⟨rfl, Below.refl _ _⟩

theorem index_all (F : Interp) (p : Option Addr) (n cap : Nat) (f : Nat → ByteArray) (raw : ByteArray) (pk : Nat) (u : Bool) (w : World) (hF : F.answers w.tape) (hpk : pk ≤ 255) (hm : n ≤ maxLen) (hp : Names p n f w) (hraw : raw.size ≤ maxLen) :
    Calls Ybaf.prog 5 #[.slice p n cap, .string raw, .int .u8 pk, .bool u] w fun e w' => e = .returned (.bool true) ∧ Below w.heap.size w w' := by
  by_cases hn : n ≤ 1024
  · cases u
    · exact index_raw F p n cap f raw pk w hF hn hp hraw
    · by_cases h0 : 0 < n
      · exact index_pick F p n cap f raw pk w hF hpk h0 hn hp
      · obtain rfl : n = 0 := by omega
        exact index_empty F p cap f raw pk w hF hp hraw
  · exact index_far p n cap raw pk u w (by omega) hm
end Go.Proofs.YbulkaieyFmt
