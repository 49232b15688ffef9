/- The record behind all others. -/
import Derived.Test.YtcecfjblgakfeaaF11
import Derived.Laws.Tables
namespace Go.Proofs.Ytcecfjblgakfeaa
open Go.RowKit Go.Lib
theorem setRow_blk {w : World} {g : Nat} {t : TypeId} {old cells : Array Value} (h : Blk w g t old) : Blk (w.setRow g cells) g t cells := setRow_heap w g old cells t _ h
theorem setRow_grown (w : World) (g : Nat) (cells : Array Value) : w.grownBy (w.setRow g cells) (some g) := by
  refine ⟨rfl, rfl, rfl, by simp [World.setRow], fun i hi hne => ?_⟩
  simp only [World.setRow, Array.getElem?_modify]
  rw [if_neg (fun e => hne (by rw [e]))]
theorem cells_one (r : Rec) (g : Nat) : (cRecCells r g).all (·.oneCell') = true := by simp [Value.oneCell']
theorem info54 : (Try.prog.info? 54).map (·.size) = some 17 := by kernel_rfl
set_option maxRecDepth 100000 in
set_option maxHeartbeats 400000 in
theorem trailer_any (w : World) :
    Calls Try.prog 44 #[] w (Made trailerRec 0 none w) := by
  go_enter Try.func44, Try.ntmps44
  go_wp2_with (first
    | (go_at_call 24
       refine (static_trailer _).mono ?_
       rintro e w1 ⟨g, rfl, hg, hb, hk⟩
       have hbx : Blk w1 w.heap.size 54 _ := (Blk.new w 54 _).old hb
       have hb1 : Below w.heap.size w w1 := ((Below.refl _ _).alloc (Nat.le_refl _) _).trans (hb.mono (by simp)))
    | (refine wpList_store_row rfl 54 (.tmp 0) (.tmp 2) rfl w.heap.size (cRecCells trailerRec g) rfl rfl 54 _ hbx info54 rfl (cells_one _ _) ?_))
  have hbc := (setRow_blk (cells := cRecCells trailerRec g) hbx).cell
  have hgr := setRow_grown w1 w.heap.size (cRecCells trailerRec g)
  have hg' : w.heap.size + 1 ≤ g := by simpa using hg
  refine bodyPost_ret (v := .agg (cRecCells trailerRec g)) (by simp [results, Try.results44, go_sem, hbc]) rfl ⟨g, rfl, by omega, hb1.grown hgr hb1.size (fun j hj => by cases hj; exact Nat.le_refl _), (hgr.block g hk.lt (by simp; omega)).trans hk⟩
end Go.Proofs.Ytcecfjblgakfeaa
