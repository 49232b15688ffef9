/- A hexadecimal digit, read. -/
import Derived.Test.YtcecfjblgakfeaaP2
namespace Go.Proofs.Ytcecfjblgakfeaa
open Go.RowKit
set_option maxRecDepth 100000 in
set_option maxHeartbeats 400000 in
theorem unhex1_any (d : Nat) (hd : d < 16) (w : World) :
    Calls Try.prog 86 #[.int .u8 ((dig d).toNat : Int)] w fun e w' => e = .returned (.int .i64 d) ∧ w' = w := by
  rw [dig_nat d hd]
  by_cases h : d < 10
  · rw [if_pos h]
    go_enter Try.func86, Try.ntmps86
    go_wp2
    go_ret
    exact ⟨by go_num, rfl⟩
  · rw [if_neg h]
    go_enter Try.func86, Try.ntmps86
    go_wp2
    go_ret
    exact ⟨by go_num, rfl⟩
end Go.Proofs.Ytcecfjblgakfeaa
