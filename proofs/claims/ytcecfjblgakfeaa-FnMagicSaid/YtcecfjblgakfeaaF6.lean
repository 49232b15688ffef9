/- A section of a record is read. -/

import Derived.Test.YtcecfjblgakfeaaF5
import Derived.Deep.QuietTactic
import Derived.BigQuiet
namespace Go.Proofs.Ytcecfjblgakfeaa
open Go.RowKit
/-- The package's record as a value: its reader at block g. -/
abbrev cRecCells (r : Rec) (g : Nat) : Array Value :=
  #[.iface 71 (.pointer (some ⟨g, 0, none⟩)), .int .u64 r.ino, .int .u64 r.mode, .int .u64 r.uid, .int .u64 r.gid, .int .u64 r.nlink, .int .u64 r.mtime, .int .u64 r.data.length, .int .u64 0, .int .u64 r.major, .int .u64 r.minor, .int .u64 r.rmajor, .int .u64 r.rminor, .string ⟨r.name.toArray⟩, .int .i64 0, .int .u64 0, .int .i64 0]
theorem m54 (r : Rec) (g : Nat) (w : World) : (method 292 54 (.agg (cRecCells r g)) "ReadAt").run Try.prog w = .ok (67, .pointer (some ⟨g, 0, none⟩)) w := by kernel_rfl
theorem n54 (r : Rec) (g : Nat) (w : World) : (nilAhead 292 54 (.agg (cRecCells r g)) "ReadAt").run Try.prog w = .ok (some false) w := by kernel_rfl
theorem below_of_grown {w w' : World} {g B : Nat} (h : w.grownBy w' (some g)) (hB : B < g) (hg : g < w.heap.size) : Below B w w' :=
  ⟨h.os, h.tape, h.output, h.size, fun k hk => by
    exact h.block k (by omega) (fun e => by injection e with e; omega)⟩
theorem drewN_grown (w : World) (n : Nat) (row : Option Nat) : w.grownBy (w.drewN n) row := ⟨rfl, rfl, rfl, Nat.le_refl _, fun _ _ _ => rfl⟩
set_option maxRecDepth 100000 in
set_option maxHeartbeats 400000 in
theorem secread_short (r : Rec) (gS g B b off c gp m : Nat) (cur : List Value) (w : World)
    (hS : Blk w gS 119 #[.iface 54 (.agg (cRecCells r g)), .int .i64 0, .int .i64 0, .int .i64 9223372036854775807, .int .i64 9223372036854775807])
    (hb : Blk w g 73 #[.slice (some ⟨b, off, none⟩) r.data.length c, .int .i64 0])
    (hr : Rd w B 1 (some ⟨b, off, none⟩) r.data.length (bv r.data)) (hnc : r.data.length ≤ c) (h0 : 0 < r.data.length) (hd : r.data.length ≤ 300) (hm : 300 < m) (hm9 : m ≤ 100000) (hp : Blk w gp 5 cur.toArray) (hcur : 300 ≤ cur.length) (hlt : gS < gp) :
    Calls Try.prog 75 #[.pointer (some ⟨gS, 0, none⟩), .slice (some ⟨gp, 0, none⟩) m m] w fun e w' => e = .returned (.tuple #[.int .i64 r.data.length, EOFV]) ∧ Blk w' gp 5 (splice cur 0 (bv r.data)).toArray ∧ Below gS w w' := by
  have c0 : w.cell? ⟨gS, 0, none⟩ = some (.iface 54 (.agg (cRecCells r g))) := by rw [hS.cell]; rfl
  have c2 : w.cell? ⟨gS, 2, none⟩ = some (.int .i64 0) := by rw [hS.cell]; rfl
  have c3 : w.cell? ⟨gS, 3, none⟩ = some (.int .i64 9223372036854775807) := by rw [hS.cell]; rfl
  go_enter Try.func75, Try.ntmps75
  go_wp2
  go_quiet (fail)
  go_wp2
  go_quiet (fail)
  go_wp2
  have hmt := fun W => m54 r g W
  have hne : gp ≠ gS := by omega
  have hcall := fun k => readat_short g B b off r.data.length c gp m m 0 r.data cur (w.drewN k) (hb.drewN k) (hr.drewN k) hnc h0 (by omega) (hp.drewN k) (by omega)
  simp only [Int.natCast_zero, List.drop_zero, Nat.sub_zero] at hcall
  have HC := Lib.hid hcall
  clear hcall
  go_region_held3 (fun w' => w'.cell? ⟨gS, 0, none⟩ = some (.iface 54 (.agg (cRecCells r g))) ∧ w'.cell? ⟨gS, 2, none⟩ = some (.int .i64 0)) (go_keep)
    (first
      | (go_at_call 67
         refine (HC.out _).mono ?_
         rintro e w1 ⟨rfl, hw1, hg1⟩
         have hS1 : Blk w1 gS 119 _ := (hg1.block gS hS.lt (fun e => hne (by injection e with e; exact e.symm))).trans hS
         have d0 : w1.cell? ⟨gS, 0, none⟩ = some (.iface 54 (.agg (cRecCells r g))) := by rw [hS1.cell]; rfl
         have d2 : w1.cell? ⟨gS, 2, none⟩ = some (.int .i64 0) := by rw [hS1.cell]; rfl))
  all_goals
    have hf2 := hS1.frozen 2
    go_wp2
    go_ret2
    exact ⟨rfl, hw1.far (by simpa using hne) _, (below_of_grown ((drewN_grown w _ _).trans hg1) hlt hp.lt).setCell (Nat.le_refl _) _⟩
set_option maxRecDepth 100000 in
set_option maxHeartbeats 400000 in
theorem secread_none (r : Rec) (gS g c : Nat) (A : Option Addr) (P : Value) (m : Nat) (A' : Option Addr) (w : World)
    (hS : Blk w gS 119 #[.iface 54 (.agg (cRecCells r g)), .int .i64 0, .int .i64 0, .int .i64 9223372036854775807, .int .i64 9223372036854775807])
    (hb : Blk w g 73 #[.slice A 0 c, .int .i64 0]) (hm9 : m ≤ 100000) (hP : P = .slice A' m m) :
    Calls Try.prog 75 #[.pointer (some ⟨gS, 0, none⟩), P] w fun e w' => e = .returned (.tuple #[.int .i64 0, EOFV]) ∧ Below gS w w' := by
  subst hP
  have c0 : w.cell? ⟨gS, 0, none⟩ = some (.iface 54 (.agg (cRecCells r g))) := by rw [hS.cell]; rfl
  have c2 : w.cell? ⟨gS, 2, none⟩ = some (.int .i64 0) := by rw [hS.cell]; rfl
  have c3 : w.cell? ⟨gS, 3, none⟩ = some (.int .i64 9223372036854775807) := by rw [hS.cell]; rfl
  go_enter Try.func75, Try.ntmps75
  go_wp2
  go_quiet (fail)
  go_wp2
  go_quiet (fail)
  go_wp2
  have hmt := fun W => m54 r g W
  have hcall := fun k => readat_eof g 0 c 0 A (.slice A' m m) (w.drewN k) (hb.drewN k) (Nat.le_refl _)
  simp only [Int.natCast_zero] at hcall
  have HC := Lib.hid hcall
  clear hcall
  go_region_held3 (fun w' => w'.cell? ⟨gS, 0, none⟩ = some (.iface 54 (.agg (cRecCells r g))) ∧ w'.cell? ⟨gS, 2, none⟩ = some (.int .i64 0)) (go_keep)
    (first
      | (go_at_call 67
         refine (HC.out _).mono ?_
         rintro e w1 ⟨rfl, rfl⟩))
  all_goals
    have hf2 := hS.frozen 2
    go_wp2
    go_ret2
    exact ⟨rfl, (below_drewN (Below.refl gS w) _).setCell (p := ⟨gS, 2, none⟩) (Nat.le_refl _) _⟩
end Go.Proofs.Ytcecfjblgakfeaa
