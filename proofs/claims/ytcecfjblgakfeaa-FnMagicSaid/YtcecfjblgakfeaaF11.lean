/- A record that is held in memory. -/
import Derived.Test.YtcecfjblgakfeaaF8
import Derived.Test.YtcecfjblgakfeaaN
namespace Go.Proofs.Ytcecfjblgakfeaa
open Go.RowKit Go.Lib
/-- The package's numbers of a record as cells, as they come in: the size of the file is not looked at. -/
abbrev infoCells (r : Rec) (size : Int) : Array Value :=
  #[.int .u64 r.ino, .int .u64 r.mode, .int .u64 r.uid, .int .u64 r.gid, .int .u64 r.nlink, .int .u64 r.mtime, .int .u64 size, .int .u64 0, .int .u64 r.major, .int .u64 r.minor, .int .u64 r.rmajor, .int .u64 r.rminor, .string ⟨r.name.toArray⟩]
set_option maxRecDepth 100000 in
set_option maxHeartbeats 400000 in
theorem static_any (r : Rec) (n c : Nat) (A : Option Addr) (size : Int) (hn : n = r.data.length) (hd : n ≤ 2147483647) (w : World) :
    Calls Try.prog 24 #[.slice A n c, .agg (infoCells r size)] w fun e w' => ∃ g, e = .returned (.agg (cRecCells r g)) ∧ w.heap.size ≤ g ∧ Below w.heap.size w w' ∧ Blk w' g 73 #[.slice A n c, .int .i64 0] := by
  go_enter Try.func24, Try.ntmps24
  go_wp2
  subst hn
  have h := Blk.new (((w.alloc (Obj.cells (infoCells r r.data.length) 52)).alloc (Obj.cells (cRecCells r (w.heap.size + 2)) 54))) 73 #[.slice A r.data.length c, .int .i64 0]
  have hs : ((w.alloc (Obj.cells (infoCells r r.data.length) 52)).alloc (Obj.cells (cRecCells r (w.heap.size + 2)) 54)).heap.size = w.heap.size + 2 := by simp
  rw [hs] at h
  exact bodyPost_ret (v := .agg (cRecCells r (w.heap.size + 2))) (by simp [results, Try.results24, go_sem]) rfl ⟨w.heap.size + 2, rfl, by omega, (((Below.refl _ _).alloc (Nat.le_refl _) _).alloc (by simp) _).alloc (by simp; omega) _, h⟩
/-- The record behind all others. -/
def trailerRec : Rec := ⟨0, 0, 0, 0, 0, 0, 0, 0, 0, 0, trailer, []⟩
def Made (r : Rec) (c : Nat) (A : Option Addr) (w : World) (e : Ending) (w' : World) : Prop :=
  ∃ g, e = .returned (.agg (cRecCells r g)) ∧ w.heap.size ≤ g ∧ Below w.heap.size w w' ∧ Blk w' g 73 #[.slice A r.data.length c, .int .i64 0]
theorem static_trailer (w : World) :
    Calls Try.prog 24 #[.slice none 0 0, .agg #[.int .u64 0, .int .u64 0, .int .u64 0, .int .u64 0, .int .u64 0, .int .u64 0, .int .u64 0, .int .u64 0, .int .u64 0, .int .u64 0, .int .u64 0, .int .u64 0, .string ⟨#[84, 82, 65, 73, 76, 69, 82, 33, 33, 33]⟩]] w (Made trailerRec 0 none w) :=
  static_any trailerRec 0 0 none 0 rfl (by omega) w
end Go.Proofs.Ytcecfjblgakfeaa
