/- Format of nothing works; Normal of a name. -/
import Derived.Test.YtcecfjblgakfeaaF17
import Derived.Test.YtcecfjblgakfeaaS3
namespace Go.Proofs.Ytcecfjblgakfeaa
open Go.RowKit
set_option maxRecDepth 100000 in
set_option maxHeartbeats 400000 in
/-- Format of no records works. -/
theorem works_any (w : World) : Calls Try.prog 11 #[] w fun e w' => e = .returned (.bool true) ∧ Below w.heap.size w w' := by
  have h := fun W => format_any [] 0 none (by simp) (fun x hx => (List.not_mem_nil hx).elim) (fun x hx => (List.not_mem_nil hx).elim) List.nodup_nil (fun x hx => (List.not_mem_nil hx).elim) trailerRec.enc (Lib.hid (by simp [encs])) W (fun x hx => (List.not_mem_nil hx).elim) Rd.none_
  have HC := Lib.hid h
  clear h
  go_enter Try.func11, Try.ntmps11
  go_wp2_with (go_at_call 12; refine (HC.out _).mono ?_; rintro e w1 ⟨A, c, rfl, ho, hb⟩)
  go_ret
  exact ⟨rfl, hb⟩
/-- What Normalize makes of a name. -/
def Norms (l l' : List UInt8) : Prop := ∀ w, Calls Try.prog 27 #[.string ⟨l.toArray⟩] w fun e w' => e = .returned (.string ⟨l'.toArray⟩) ∧ Below w.heap.size w w'
set_option maxRecDepth 100000 in
set_option maxHeartbeats 400000 in
theorem normal1_any (l l' : List UInt8) (hN : Norms l l') (gs gt : Nat) (v : Value) (w : World) (hs : Blk w gs 9 #[.string ⟨l.toArray⟩]) (ht : Blk w gt 9 #[v]) :
    Calls Try.prog 26 #[.pointer (some ⟨gs, 0, none⟩), .pointer (some ⟨gt, 0, none⟩)] w fun e w' => e = .returned (.tuple #[]) ∧ ∃ w1, Below w.heap.size w w1 ∧ w' = w1.setCell ⟨gt, 0, none⟩ (.string ⟨l'.toArray⟩) := by
  have c0 : w.cell? ⟨gs, 0, none⟩ = some (.string ⟨l.toArray⟩) := by rw [hs.cell]; rfl
  have HN := Lib.hid hN
  clear hN
  go_enter Try.func26, Try.ntmps26
  go_wp2_with (
     go_at_call 27
     refine (HN.out _).mono ?_
     rintro e w1 ⟨rfl, hb⟩
     have ht1 := ht.old hb
     have hz := ht1.frozen 0
     have hc : w1.cell? ⟨gt, 0, none⟩ = some v := by rw [ht1.cell]; rfl)
  go_end0
  exact ⟨rfl, w1, hb, rfl⟩
set_option maxRecDepth 100000 in
set_option maxHeartbeats 400000 in
theorem normal_any (l l' : List UInt8) (hN : Norms l l') (w : World) :
    Calls Try.prog 16 #[.string ⟨l.toArray⟩] w fun e w' => e = .returned (.string ⟨l'.toArray⟩) ∧ Below w.heap.size w w' := by
  have hmf : ∀ (fn : Fn) (first cap : Array Value) (w : World), (Instr.makeFunc fn first cap).run Try.prog w = .ok (.func fn first cap) w := fun _ _ _ _ => rfl
  obtain ⟨W, hW⟩ : ∃ W, W = (w.alloc (.cells #[.string ⟨l.toArray⟩] 9)).alloc (.cells #[.string ⟨#[]⟩] 9) := ⟨_, rfl⟩
  have b1 : Blk W w.heap.size 9 #[.string ⟨l.toArray⟩] := by rw [hW]; exact (Blk.new _ _ _).alloc _
  have b2 : Blk W (w.heap.size + 1) 9 #[.string ⟨#[]⟩] := by
    have := Blk.new (w.alloc (.cells #[.string ⟨l.toArray⟩] 9)) 9 #[.string ⟨#[]⟩]
    rw [hW]
    simpa using this
  have hb0 : Below w.heap.size w W := by rw [hW]; exact ((Below.refl _ _).alloc (Nat.le_refl _) _).alloc (by simp) _
  have hs : W.heap.size = w.heap.size + 2 := by rw [hW]; simp
  have hbW : Below W.heap.size W (W.alloc (.cells #[.bool false] 4)) := (Below.refl _ _).alloc (Nat.le_refl _) _
  have hcall := (quietly_26 _ (fun w' => ∃ w1, Below W.heap.size W w1 ∧ w' = w1.setCell ⟨w.heap.size + 1, 0, none⟩ (.string ⟨l'.toArray⟩)) W ((normal1_any l l' hN w.heap.size (w.heap.size + 1) _ (W.alloc (.cells #[.bool false] 4)) (b1.alloc _) (b2.alloc _)).mono (by
    rintro e w' ⟨rfl, w1, hb1, rfl⟩
    exact ⟨rfl, ⟨w1, hbW.trans (hb1.mono hbW.size), rfl⟩, ((Blk.new W 4 #[.bool false]).old hb1).far (by simp; omega) _⟩)))
  rw [hW] at hcall
  have HC := Lib.hid hcall
  clear hcall hbW
  go_enter Try.func16, Try.ntmps16
  go_wp2_with (
     go_at_call 22
     refine HC.out.mono ?_
     rintro e w1 ⟨rfl, w2, ⟨w3, hb3, rfl⟩, hk, rfl⟩
     rw [← hW] at hb3 hk ⊢
     rw [hs]
     have e3 : Blk (w3.setCell ⟨w.heap.size + 1, 0, none⟩ (.string ⟨l'.toArray⟩)) (w.heap.size + 1) 9 #[.string ⟨l'.toArray⟩] := (b2.old hb3).set_ 0 _
     have e4 := e3.far (p := ⟨w.heap.size + 2, 0, none⟩) (by simp) (.bool true)
     have hbl := ((hb0.trans (hb3.mono hb0.size)).setCell (p := ⟨w.heap.size + 1, 0, none⟩) (by simp) (.string ⟨l'.toArray⟩)).setCell (p := ⟨w.heap.size + 2, 0, none⟩) (by simp) (.bool true)
     clear hW hk hb3 e3
     generalize (w3.setCell ⟨w.heap.size + 1, 0, none⟩ (.string ⟨l'.toArray⟩)).setCell ⟨w.heap.size + 2, 0, none⟩ (.bool true) = w4 at *
     have y1 : w4.cell? ⟨w.heap.size + 1, 0, none⟩ = some (.string ⟨l'.toArray⟩) := by rw [e4.cell]; rfl
     have z1 := e4.frozen 0)
  have e5 := (e4.set_ 0 (.string ⟨l'.toArray⟩)).cell 0
  simp at e5
  exact bodyPost_ret (v := .string ⟨l'.toArray⟩) (by simp [results, Try.results16, go_sem, e5]) rfl ⟨rfl, hbl.setCell (p := ⟨w.heap.size + 1, 0, none⟩) (by simp) _⟩
end Go.Proofs.Ytcecfjblgakfeaa
