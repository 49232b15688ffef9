/- The reader over bytes. -/
import Derived.Test.YtcecfjblgakfeaaF14
namespace Go.Proofs.Ytcecfjblgakfeaa
open Go.RowKit
/-- The reader's state: it reads on at position pos of the source t v. -/
def Rst (w : World) (gR : Nat) (t : TypeId) (v : Value) (pos : Nat) : Prop := Blk w gR 141 #[.string ⟨magic.toArray⟩, .iface t v, .int .i64 pos]
set_option maxRecDepth 100000 in
set_option maxHeartbeats 400000 in
theorem newreader_any (v : Value) (t : TypeId) (w : World) :
    Calls Try.prog 70 #[.agg #[.string ⟨magic.toArray⟩], .iface t v] w fun e w' => ∃ gR, e = .returned (.iface 143 (.agg #[.iface 139 (.pointer (some ⟨gR, 0, none⟩))])) ∧ w.heap.size ≤ gR ∧ Rst w' gR t v 0 ∧ Below w.heap.size w w' := by
  go_enter Try.func70, Try.ntmps70
  go_wp2
  go_ret
  have h := Blk.new (w.alloc (.cells #[.string ⟨magic.toArray⟩] 90)) 141 #[.string ⟨magic.toArray⟩, .iface t v, .int .i64 0]
  rw [show (w.alloc (.cells #[.string ⟨magic.toArray⟩] 90)).heap.size = w.heap.size + 1 by simp] at h
  exact ⟨w.heap.size + 1, rfl, by omega, h, ((Below.refl _ _).alloc (Nat.le_refl _) _).alloc (by simp) _⟩
theorem m90r (v : Value) (w : World) : (method 292 90 (.agg #[v]) "Reader").run Try.prog w = .ok (70, .agg #[v]) w := by kernel_rfl
set_option maxRecDepth 100000 in
set_option maxHeartbeats 400000 in
theorem zzreader_any (A : Option Addr) (n c : Nat) (w : World) :
    Calls Try.prog 32 #[.slice A n c] w fun e w' => ∃ gR g, e = .returned (.iface 143 (.agg #[.iface 139 (.pointer (some ⟨gR, 0, none⟩))])) ∧ w.heap.size ≤ gR ∧ Rst w' gR 71 (.pointer (some ⟨g, 0, none⟩)) 0 ∧ Blk w' g 73 #[.slice A n c, .int .i64 0] ∧ w.heap.size ≤ g ∧ Below w.heap.size w w' := by
  have hmt := fun W => m90r (.string ⟨magic.toArray⟩) W
  go_enter Try.func32, Try.ntmps32
  go_wp2_with (first
    | (go_at_call 35
       refine (newc_any _).mono ?_
       rintro e w1 ⟨rfl, rfl⟩)
    | (go_at_call 70
       refine (newreader_any _ _ _).mono ?_
       rintro e w2 ⟨gR, rfl, hg, hr, hb⟩))
  go_ret
  have hk := (Blk.new w1 73 #[.slice A n c, .int .i64 0]).old hb
  have hg' : w1.heap.size + 1 ≤ gR := by simpa using hg
  exact ⟨gR, w1.heap.size, rfl, by omega, hr, hk, Nat.le_refl _, ((Below.refl _ _).alloc (Nat.le_refl _) _).trans (hb.mono (by simp))⟩
end Go.Proofs.Ytcecfjblgakfeaa
