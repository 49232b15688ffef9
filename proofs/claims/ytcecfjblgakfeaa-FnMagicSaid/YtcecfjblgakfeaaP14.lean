/- All records are read. -/
import Derived.Test.YtcecfjblgakfeaaP11
namespace Go.Proofs.Ytcecfjblgakfeaa
open Go.RowKit
/-- What the reading of all records comes to. -/
def AllRead (bad : Bool) (rs : List Rec) (gR g : Nat) (d : List UInt8) (w : World) (e : Ending) (w' : World) : Prop :=
  ∃ A c er xs, e = .returned (.tuple #[.slice A rs.length c, er]) ∧ ((bad = false ∧ er = .nilIface) ∨ (bad = true ∧ ∃ p, er = .iface 109 (.pointer p))) ∧
    Own w' w.heap.size 54 17 (.slice A rs.length c) rs.length (fCells xs) ∧ xs.map (·.r) = rs ∧ (∀ x ∈ xs, GotOk w' g d x) ∧ Onl (fun k => k = gR) w w'
set_option maxRecDepth 100000 in
set_option maxHeartbeats 1000000 in
theorem readrecs_any (bad : Bool) (rs : List Rec) (tail : List UInt8) (ht : Tail bad tail) (hsm : ∀ r ∈ rs, r.Small) (hnt : ∀ r ∈ rs, r.name ≠ trailer) (hn20 : rs.length ≤ 20) (gR g b off B n c : Nat) (d : List UInt8) (hd : d = encs rs ++ tail) (w : World)
    (hR : Rst w gR 71 (.pointer (some ⟨g, 0, none⟩)) 0) (hS : Src w g b off B n c d) (hBR : B ≤ gR) :
    Calls Try.prog 31 #[.iface 143 (.agg #[.iface 139 (.pointer (some ⟨gR, 0, none⟩))])] w (AllRead bad rs gR g d w) := by
  have hmf : ∀ (fn : Fn) (first cap : Array Value) (w : World), (Instr.makeFunc fn first cap).run Try.prog w = .ok (.func fn first cap) w := fun _ _ _ _ => rfl
  have hgl := hR.lt
  have hb0 : Below w.heap.size w (w.alloc (.cells #[.slice none 0 0] 48)) := (Below.refl _ _).alloc (Nat.le_refl _) _
  have hcall := foreach_any bad rs tail ht hsm hnt hn20 gR w.heap.size g b off B n c d hd (w.alloc (.cells #[.slice none 0 0] 48)) (Blk.old hR hb0) (hS.below hb0 (by omega)) hBR (by omega) (Blk.new _ _ _)
  have HC := Lib.hid hcall
  have hz := hb0.size
  clear hcall hd ht
  go_enter Try.func31, Try.ntmps31
  go_wp2_with (
    go_at_call 40
    refine HC.out.mono ?_
    rintro e w1 ⟨⟨er, rfl, hcase⟩, v, xs, hF1, hown1, hxs, hok1, ho1⟩
    obtain ⟨A, c1, rfl, hc1, _, _⟩ := hown1.shape
    have cF : w1.cell? ⟨w.heap.size, 0, none⟩ = some (.slice A rs.length c1) := by rw [hF1.cell]; rfl)
  go_ret2
  exact ⟨A, c1, er, xs, rfl, hcase, hown1.more hz, hxs, hok1, (Onl.of_below (P := fun k => k = gR) hb0).tr ho1 (fun k hk e => e.elim id (fun e => by omega))⟩
end Go.Proofs.Ytcecfjblgakfeaa
