/- Four bytes as a number. -/
import Derived.Test.YtcecfjblgakfeaaF5
import Derived.Deep.QuietTactic
import Derived.BigQuiet
namespace Go.Proofs.Ytcecfjblgakfeaa
open Go.RowKit
theorem or_step (lo hi k : Nat) (hl : lo < 2 ^ k) (hs : hi * 2 ^ k < 4294967296) (hlo : lo < 4294967296) : bits .or .u32 (lo : Int) ((hi * 2 ^ k : Nat) : Int) = ((hi * 2 ^ k + lo : Nat) : Int) := by
  rw [u32_or_nat lo (hi * 2 ^ k) hlo hs]
  congr 1
  rw [Nat.or_comm, show hi * 2 ^ k = hi <<< k by rw [Nat.shiftLeft_eq], ← Nat.shiftLeft_add_eq_or_of_lt hl]
set_option maxRecDepth 100000 in
set_option maxHeartbeats 400000 in
theorem beuint_any (b off n c : Nat) (x0 x1 x2 x3 : Nat) (h0 : x0 < 256) (h1 : x1 < 256) (h2 : x2 < 256) (h3 : x3 < 256) (hn : 4 ≤ n) (w : World)
    (c0 : w.cell? ⟨b, off, none⟩ = some (.int .u8 x0)) (c1 : w.cell? ⟨b, off + 1, none⟩ = some (.int .u8 x1)) (c2 : w.cell? ⟨b, off + 2, none⟩ = some (.int .u8 x2)) (c3 : w.cell? ⟨b, off + 3, none⟩ = some (.int .u8 x3)) :
    Calls Try.prog 87 #[.slice (some ⟨b, off, none⟩) n c] w fun e w' => e = .returned (.int .u32 ((x0 * 16777216 + x1 * 65536 + x2 * 256 + x3 : Nat) : Int)) ∧ ∃ q, w' = w.drewN q := by
  have hni : (4 : Int) ≤ n := by omega
  go_enter Try.func87, Try.ntmps87
  go_wp2
  go_quiet (fail)
  go_wp2
  go_ret
  have e1 := or_step x3 x2 8 (by omega) (by omega) (by omega)
  have e2 := or_step (x2 * 2 ^ 8 + x3) x1 16 (by omega) (by omega) (by omega)
  have e3 := or_step (x1 * 2 ^ 16 + (x2 * 2 ^ 8 + x3)) x0 24 (by omega) (by omega) (by omega)
  simp only [Nat.reducePow, Int.natCast_mul] at e1 e2 e3
  refine ⟨?_, _, rfl⟩
  have c256 : (((256 : Nat) : Int)) = 256 := rfl
  have c65 : (((65536 : Nat) : Int)) = 65536 := rfl
  have c16 : (((16777216 : Nat) : Int)) = 16777216 := rfl
  rw [c256] at e1
  rw [c65] at e2
  rw [c16] at e3
  show Ending.returned (Value.int .u32 (bits .or .u32 (bits .or .u32 (bits .or .u32 (x3 : Int) ((x2 : Int) * 256)) ((x1 : Int) * 65536)) ((x0 : Int) * 16777216))) = _
  rw [e1, e2, e3]
  rw [show x0 * 16777216 + (x1 * 65536 + (x2 * 256 + x3)) = x0 * 16777216 + x1 * 65536 + x2 * 256 + x3 by omega]
end Go.Proofs.Ytcecfjblgakfeaa
