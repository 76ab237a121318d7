import Derived.Test.YbulkaigaFmtASPath
import Derived.Test.YbulkaigaFmtBytes
namespace Go.Proofs.YbulkaigaFmt
open Go.RowKit

/-- The package's marks for addresses of no family, of IPv4 and of IPv6. -/
def addrVal (a : Go.Addr) (hi lo : Int) : Value := .agg #[.int .u64 hi, .int .u64 lo, .pointer (some a)]
structure Marks (w : World) (a4 a6 : Go.Addr) : Prop where
  c6 : w.cell? ⟨1, 0, none⟩ = some (.pointer (some a6))
  c4 : w.cell? ⟨2, 0, none⟩ = some (.pointer (some a4))
  c0 : w.cell? ⟨3, 0, none⟩ = some (.pointer none)
  lt : 3 < w.heap.size
  b6 : ∃ cs t, w.heap[a6.block]? = some (.cells cs t (0, 0))
  b4 : ∃ cs t, w.heap[a4.block]? = some (.cells cs t (0, 0))
  ne : a6 ≠ a4

set_option maxRecDepth 100000 in
set_option maxHeartbeats 4000000 in
theorem addrFrom4_any (a4 a6 : Go.Addr) (x y z t : Int) (w : World) (x0 : 0 ≤ x) (x1 : x ≤ 255) (y0 : 0 ≤ y) (y1 : y ≤ 255) (z0 : 0 ≤ z) (z1 : z ≤ 255) (t0 : 0 ≤ t) (t1 : t ≤ 255) (h : Marks w a4 a6) :
    Calls Ybaf.prog 31 #[.agg #[.int .u8 x, .int .u8 y, .int .u8 z, .int .u8 t]] w fun e w' => e = .returned (addrVal a4 0 (bits .or .u64 (bits .or .u64 (bits .or .u64 (bits .or .u64 281470681743360 (x * 16777216)) (y * 65536)) (z * 256)) t)) ∧ w' = (w.alloc (.cells #[.int .u8 x, .int .u8 y, .int .u8 z, .int .u8 t] 98)).alloc (.cells #[.int .u64 0, .int .u64 (bits .or .u64 (bits .or .u64 (bits .or .u64 (bits .or .u64 281470681743360 (x * 16777216)) (y * 65536)) (z * 256)) t), .pointer (some a4)] 45) := by
  have h1 := h.c4
  have h2 := h.lt
  have h3 : 2 < w.heap.size := by omega
  clear h
  go_enter Ybaf.func31, Ybaf.ntmps31
  go_wp2_with fail
  refine bodyPost_ret (v := addrVal a4 0 _) (by simp [results, Ybaf.f31, go_sem]; rfl) rfl ⟨rfl, ?_⟩
  rfl

def join64 (b0 b1 b2 b3 b4 b5 b6 b7 : Int) : Int := b0 * 72057594037927936 + b1 * 281474976710656 + b2 * 1099511627776 + b3 * 4294967296 + b4 * 16777216 + b5 * 65536 + b6 * 256 + b7

set_option maxRecDepth 100000 in
set_option maxHeartbeats 4000000 in
theorem uint64_any (g o c : Nat) (b0 b1 b2 b3 b4 b5 b6 b7 : Int) (w : World)
    (r0 : 0 ≤ b0 ∧ b0 ≤ 255) (r1 : 0 ≤ b1 ∧ b1 ≤ 255) (r2 : 0 ≤ b2 ∧ b2 ≤ 255) (r3 : 0 ≤ b3 ∧ b3 ≤ 255) (r4 : 0 ≤ b4 ∧ b4 ≤ 255) (r5 : 0 ≤ b5 ∧ b5 ≤ 255) (r6 : 0 ≤ b6 ∧ b6 ≤ 255) (r7 : 0 ≤ b7 ∧ b7 ≤ 255)
    (c0 : w.cell? ⟨g, o, none⟩ = some (.int .u8 b0)) (c1 : w.cell? ⟨g, o + 1, none⟩ = some (.int .u8 b1)) (c2 : w.cell? ⟨g, o + 2, none⟩ = some (.int .u8 b2)) (c3 : w.cell? ⟨g, o + 3, none⟩ = some (.int .u8 b3))
    (c4 : w.cell? ⟨g, o + 4, none⟩ = some (.int .u8 b4)) (c5 : w.cell? ⟨g, o + 5, none⟩ = some (.int .u8 b5)) (c6 : w.cell? ⟨g, o + 6, none⟩ = some (.int .u8 b6)) (c7 : w.cell? ⟨g, o + 7, none⟩ = some (.int .u8 b7)) :
    Calls Ybaf.prog 34 #[.slice (some ⟨g, o, none⟩) 8 c] w fun e w' => e = .returned (.int .u64 (join64 b0 b1 b2 b3 b4 b5 b6 b7)) ∧ ∃ k, w' = w.drewN k := by
  obtain ⟨r00, r01⟩ := r0
  obtain ⟨r10, r11⟩ := r1
  obtain ⟨r20, r21⟩ := r2
  obtain ⟨r30, r31⟩ := r3
  obtain ⟨r40, r41⟩ := r4
  obtain ⟨r50, r51⟩ := r5
  obtain ⟨r60, r61⟩ := r6
  obtain ⟨r70, r71⟩ := r7
  go_enter Ybaf.func34, Ybaf.ntmps34
  go_wp2_with fail
  go_quiet (fail)
  go_wp2_with fail
  go_ret
  refine ⟨?_, _, rfl⟩
  show Ending.returned (Value.int .u64 _) = _
  congr 2
  simp (disch := omega) only [u64_or8, u64_or16, u64_or24, u64_or32, u64_or40, u64_or48, u64_or56]
  unfold join64
  omega

end Go.Proofs.YbulkaigaFmt
