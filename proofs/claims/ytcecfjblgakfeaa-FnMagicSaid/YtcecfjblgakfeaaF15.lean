/- The call that keeps still: a deferred recover, idle. -/
import Derived.Test.YtcecfjblgakfeaaW
import Derived.Defers
import Derived.Recover
import Derived.Laws.Pointers
namespace Go.Proofs.Ytcecfjblgakfeaa
open Go.RowKit
set_option maxRecDepth 100000 in
set_option maxHeartbeats 400000 in
theorem calm_idle (p : Addr) (w : World) :
    CallsD Try.prog 34 #[.pointer (some p)] .returning w fun e u' w' => e = .returned (.tuple #[]) ∧ u' = .returning ∧ w' = w := by
  refine callsD_of_wpS Try.func34 rfl fun c₀ cs hu => ?_
  apply wpS_seq
  apply wpS_region
  simp [wpOpsS, go_sem, recoverD, hu, Try.ntmps34, Exit.thenS]
  refine wpS_cond (t := false) (by simp [Act.eval, Array.replicate]) ?_
  simp only [Bool.false_eq_true, if_false]
  refine wpS_of_wp (wp_skip ?_)
  cases c₀
  simp_all [bodyPostS, results, Try.results34]
set_option maxRecDepth 100000 in
set_option maxHeartbeats 400000 in
theorem quietly_23 (cap : Array Value) (R : World → Prop) (w : World)
    (hcall : Calls Try.prog 23 cap (w.alloc (.cells #[.bool false] 4)) fun e w' => e = .returned (.tuple #[]) ∧ R w' ∧ Blk w' w.heap.size 4 #[.bool false]) :
    Calls Try.prog 22 #[.func (.func 23) #[] cap] w fun e w' => e = .returned (.bool true) ∧ ∃ w1, R w1 ∧ Blk w1 w.heap.size 4 #[.bool false] ∧ w' = w1.setCell ⟨w.heap.size, 0, none⟩ (.bool true) := by
  have hmf : ∀ (fn : Fn) (first cap : Array Value) (w : World), (Instr.makeFunc fn first cap).run Try.prog w = .ok (.func fn first cap) w := fun _ _ _ _ => rfl
  go_enter_defers Try.func22, Try.ntmps22
  go_wp2_with (go_at_call 23; refine hcall.mono ?_; rintro e w1 ⟨rfl, hR, hb⟩; have hc := hb.cell 0; have hz := hb.frozen 0; simp only [List.getElem?_toArray, List.getElem?_cons_zero] at hc)
  refine leaves_cons (f := 34) (args := #[.pointer (some ⟨w.heap.size, 0, none⟩)]) (by simp) (by simp [go_sem]) ?_
  refine (calm_idle ⟨w.heap.size, 0, none⟩ _).mono ?_
  rintro e u' w'' ⟨rfl, rfl, rfl⟩
  have hs := (hb.set_ 0 (.bool true)).cell 0
  simp at hs
  simp [Leaves, settle, results, Try.results22, go_sem, hs]
  exact ⟨w1, hR, hb, rfl⟩
set_option maxRecDepth 100000 in
set_option maxHeartbeats 400000 in
theorem quietly_26 (cap : Array Value) (R : World → Prop) (w : World)
    (hcall : Calls Try.prog 26 cap (w.alloc (.cells #[.bool false] 4)) fun e w' => e = .returned (.tuple #[]) ∧ R w' ∧ Blk w' w.heap.size 4 #[.bool false]) :
    Calls Try.prog 22 #[.func (.func 26) #[] cap] w fun e w' => e = .returned (.bool true) ∧ ∃ w1, R w1 ∧ Blk w1 w.heap.size 4 #[.bool false] ∧ w' = w1.setCell ⟨w.heap.size, 0, none⟩ (.bool true) := by
  have hmf : ∀ (fn : Fn) (first cap : Array Value) (w : World), (Instr.makeFunc fn first cap).run Try.prog w = .ok (.func fn first cap) w := fun _ _ _ _ => rfl
  go_enter_defers Try.func22, Try.ntmps22
  go_wp2_with (go_at_call 26; refine hcall.mono ?_; rintro e w1 ⟨rfl, hR, hb⟩; have hc := hb.cell 0; have hz := hb.frozen 0; simp only [List.getElem?_toArray, List.getElem?_cons_zero] at hc)
  refine leaves_cons (f := 34) (args := #[.pointer (some ⟨w.heap.size, 0, none⟩)]) (by simp) (by simp [go_sem]) ?_
  refine (calm_idle ⟨w.heap.size, 0, none⟩ _).mono ?_
  rintro e u' w'' ⟨rfl, rfl, rfl⟩
  have hs := (hb.set_ 0 (.bool true)).cell 0
  simp at hs
  simp [Leaves, settle, results, Try.results22, go_sem, hs]
  exact ⟨w1, hR, hb, rfl⟩
set_option maxRecDepth 100000 in
set_option maxHeartbeats 400000 in
theorem quietly_30 (cap : Array Value) (R : World → Prop) (w : World)
    (hcall : Calls Try.prog 30 cap (w.alloc (.cells #[.bool false] 4)) fun e w' => e = .returned (.tuple #[]) ∧ R w' ∧ Blk w' w.heap.size 4 #[.bool false]) :
    Calls Try.prog 22 #[.func (.func 30) #[] cap] w fun e w' => e = .returned (.bool true) ∧ ∃ w1, R w1 ∧ Blk w1 w.heap.size 4 #[.bool false] ∧ w' = w1.setCell ⟨w.heap.size, 0, none⟩ (.bool true) := by
  have hmf : ∀ (fn : Fn) (first cap : Array Value) (w : World), (Instr.makeFunc fn first cap).run Try.prog w = .ok (.func fn first cap) w := fun _ _ _ _ => rfl
  go_enter_defers Try.func22, Try.ntmps22
  go_wp2_with (go_at_call 30; refine hcall.mono ?_; rintro e w1 ⟨rfl, hR, hb⟩; have hc := hb.cell 0; have hz := hb.frozen 0; simp only [List.getElem?_toArray, List.getElem?_cons_zero] at hc)
  refine leaves_cons (f := 34) (args := #[.pointer (some ⟨w.heap.size, 0, none⟩)]) (by simp) (by simp [go_sem]) ?_
  refine (calm_idle ⟨w.heap.size, 0, none⟩ _).mono ?_
  rintro e u' w'' ⟨rfl, rfl, rfl⟩
  have hs := (hb.set_ 0 (.bool true)).cell 0
  simp at hs
  simp [Leaves, settle, results, Try.results22, go_sem, hs]
  exact ⟨w1, hR, hb, rfl⟩
end Go.Proofs.Ytcecfjblgakfeaa
