/- What a record holds is read. -/
import Derived.Test.YtcecfjblgakfeaaP11
import Derived.Test.YtcecfjblgakfeaaP12
namespace Go.Proofs.Ytcecfjblgakfeaa
open Go.RowKit
set_option maxRecDepth 100000 in
theorem mk_empty (N : Nat) (hN : N ≤ 65536) (w : World) : (Instr.makeSlice 28 (.int .i64 0) (.int .i64 (N : Int))).run Try.prog w = .ok (.slice (some ⟨w.heap.size, 0, none⟩) 0 N) (w.alloc (.cells (List.replicate N (.int .u8 0)).toArray 5)) := by
  obtain ⟨i0, hi, hz0, hz1, hz2⟩ := info_parts u8_info
  have := run_make (P := Try.prog) w 28 5 i0 (.int .u8 0) Try.underlying28 hi hz0 .i64 .i64 0 N (by omega) (by omega) (by rw [hz2]; omega) (by omega)
  rw [this]
  congr 3
  simp only [hz1, Int.toNat_natCast, Nat.mul_one, Value.cells]
  rw [← toList_madeCells_one]
theorem mk_chunks (w : World) : (Instr.makeSlice 113 (.int .i64 0) (.int .i64 4)).run Try.prog w = .ok (.slice (some ⟨w.heap.size, 0, none⟩) 0 4) (w.alloc (.cells #[.slice none 0 0, .slice none 0 0, .slice none 0 0, .slice none 0 0] 28)) := by kernel_rfl
theorem n116r (a : Addr) (w : World) : (nilAhead 292 116 (.pointer (some a)) "Read").run Try.prog w = .ok (some false) w := by kernel_rfl
theorem mk512 (w : World) : ∃ cur : List Value, cur.length = 512 ∧ (Instr.makeSlice 28 (.int .i64 0) (.int .i64 512)).run Try.prog w = .ok (.slice (some ⟨w.heap.size, 0, none⟩) 0 512) (w.alloc (.cells cur.toArray 5)) :=
  ⟨List.replicate 512 (.int .u8 0), List.length_replicate, mk_empty 512 (by omega) w⟩
/-- What a record's data are read as: a row of the call's own. -/
def ReadOwn (P : Nat → Prop) (l : List UInt8) (w : World) (e : Ending) (w' : World) : Prop :=
  ∃ gp, e = .returned (.tuple #[.slice (some ⟨gp, 0, none⟩) l.length 512, .nilIface]) ∧ Own w' w.heap.size 5 1 (.slice (some ⟨gp, 0, none⟩) l.length 512) l.length (bv l) ∧ Onl P w w'
set_option maxRecDepth 100000 in
set_option maxHeartbeats 1000000 in
theorem readall_any (gO gS g b off B n c f : Nat) (d l : List UInt8) (w : World) (hO : Over w gO gS) (hSec : Sect w gS g f l.length) (hS : Src w g b off B n c d) (hB : B ≤ w.heap.size) (hl : Hid (l = (d.drop f).take l.length)) (hfl : f + l.length ≤ n) (hl9 : l.length ≤ 300) :
    Calls Try.prog 48 #[.iface 116 (.pointer (some ⟨gO, 0, none⟩))] w (ReadOwn (fun k => k = gO) l w) := by
  obtain ⟨cur, hcl, hmk⟩ := mk512 w
  have hmc := fun W => mk_chunks W
  have hm1 := fun W => m116r ⟨gO, 0, none⟩ W
  have hn1 := fun W => n116r ⟨gO, 0, none⟩ W
  have he := fun W => eof_eql W
  have hOl := hO.lt
  have hb0 : Below w.heap.size w ((w.alloc (.cells cur.toArray 5)).alloc (.cells #[.slice none 0 0, .slice none 0 0, .slice none 0 0, .slice none 0 0] 28)) := ((Below.refl _ _).alloc (Nat.le_refl _) _).alloc (by simp) _
  have hp0 : Blk ((w.alloc (.cells cur.toArray 5)).alloc (.cells #[.slice none 0 0, .slice none 0 0, .slice none 0 0, .slice none 0 0] 28)) w.heap.size 5 cur.toArray := (Blk.new _ _ _).alloc _
  have hcall := fun q => overread_any gO gS g b off B n c f w.heap.size 512 512 d l cur (((w.alloc (.cells cur.toArray 5)).alloc (.cells #[.slice none 0 0, .slice none 0 0, .slice none 0 0, .slice none 0 0] 28)).drewN q) ((Blk.old hO hb0).drewN q) ((Blk.old hSec hb0).drewN q) ⟨(hS.below hb0 hB).1.drewN q, (hS.below hb0 hB).2.1.drewN q, hS.2.2⟩ hl hfl (by omega) (by omega) (by omega) (hp0.drewN q) (by omega)
  have HC := Lib.hid hcall
  obtain ⟨k, hk⟩ : ∃ k, k = l.length := ⟨_, rfl⟩
  have HK := Lib.hid hk
  have HCL := Lib.hid hcl
  have hk9 : (k : Int) ≤ 300 := by omega
  clear hcall hcl hk
  go_enter Try.func48, Try.ntmps48
  go_wp2_with fail
  refine wp_loop_once ?_
  go_wp2_with fail
  obtain ⟨w0, hw0⟩ : ∃ w0, w0 = (w.alloc (.cells cur.toArray 5)).alloc (.cells #[.slice none 0 0, .slice none 0 0, .slice none 0 0, .slice none 0 0] 28) := ⟨_, rfl⟩
  rw [← hw0] at hb0 hp0 HC ⊢
  clear hmk hw0
  go_region_held3 (fun _ => True) (trivial)
    (first
      | (go_at_call 75
         refine (HC.out _).mono ?_
         rintro e w1 ⟨rfl, hw1, ho1⟩))
  all_goals
    rw [← HK.out]
    have hcr : k ≤ 512 := by omega
    go_wp2
    go_ret2
    refine ⟨w.heap.size, by rw [← HK.out]; rfl, ⟨by rw [bv_len, Nat.mul_one], .inr ⟨w.heap.size, 512, _, (0, 0), rfl, Nat.le_refl _, by omega, by simp [maxLen], hw1, fun j _ => by simp, ?_, ?_⟩⟩, ?_⟩
    · simp [splice, bv_len, HCL.out]
      omega
    · simp only [splice, List.take_zero, List.nil_append, Nat.mul_one]
      rw [List.take_append_of_le_length (by rw [bv_len]; omega), List.take_of_length_le (by rw [bv_len]; omega)]
    · exact ((Onl.of_below (P := fun k => k = gO) hb0).drewN 1).tr ho1 (fun q hq e => e.elim (fun e => by omega) id)
theorem ta42 (a : Addr) (w : World) : (Instr.typeAssert (.iface 116 (.pointer (some a))) 50 102 true).run Try.prog w = .ok (.tuple #[.nilIface, .bool false]) w := run_typeAssert_lacksB Try.underlying102 (by kernel_rfl) (by kernel_rfl) _ _ w
set_option maxRecDepth 100000 in
set_option maxHeartbeats 1000000 in
theorem pubread_any (gS g b off B n c f : Nat) (d l : List UInt8) (w : World) (hSec : Sect w gS g f l.length) (hS : Src w g b off B n c d) (hB : B ≤ w.heap.size) (hl : Hid (l = (d.drop f).take l.length)) (hfl : f + l.length ≤ n) (hl9 : l.length ≤ 300) :
    Calls Try.prog 42 #[.iface 116 (.pointer (some ⟨gS, 0, none⟩))] w (ReadOwn (fun _ => False) l w) := by
  have ht := fun W => ta42 ⟨gS, 0, none⟩ W
  obtain ⟨w0, hw0⟩ : ∃ w0, w0 = w.alloc (.cells #[.iface 116 (.pointer (some ⟨gS, 0, none⟩)), .int .i64 0, .int .i64 0, .int .i64 9223372036854775807, .int .i64 9223372036854775807] 119) := ⟨_, rfl⟩
  have hO : Over w0 w.heap.size gS := by rw [hw0]; exact Blk.new _ _ _
  have hb0 : Below w.heap.size w w0 := by rw [hw0]; exact (Below.refl _ _).alloc (Nat.le_refl _) _
  have hcall := readall_any w.heap.size gS g b off B n c f d l w0 hO (Blk.old hSec hb0) (hS.below hb0 hB) (by have := hb0.size; omega) hl hfl hl9
  have HC := Lib.hid hcall
  have HW := Lib.hid hw0
  have hz := hb0.size
  clear hcall hw0
  go_enter Try.func42, Try.ntmps42
  go_wp2_with (first
    | (go_at_call 49
       refine (reader_all 116 _ _).mono ?_
       rintro e w1 ⟨rfl, rfl⟩
       rw [← HW.out])
    | (go_at_call 48
       refine HC.out.mono ?_
       rintro e w2 ⟨gp, rfl, ho2, hn2⟩))
  go_ret2
  exact ⟨gp, rfl, ho2.more hz, (Onl.of_below (P := fun _ => False) hb0).tr hn2 (fun k hk e => by omega)⟩
set_option maxRecDepth 100000 in
set_option maxHeartbeats 1000000 in
theorem content_any (x : Got) (g b off B n c : Nat) (d : List UInt8) (w : World) (hx : GotOk w g d x) (hS : Src w g b off B n c d) (hB : B ≤ w.heap.size) (hl9 : x.r.data.length ≤ 300) (cs : List Value) (hcs : cs.toArray = x.cells) :
    Calls Try.prog 33 #[.agg cs.toArray] w (ReadOwn (fun _ => False) x.r.data w) := by
  have hn : d.length = n := by have := hS.2.1.1; rw [bv_len] at this; omega
  have hb0 : Below w.heap.size w (w.alloc (.cells cs.toArray 54)) := (Below.refl _ _).alloc (Nat.le_refl _) _
  have hcall := pubread_any x.g g b off B n c x.f d x.r.data (w.alloc (.cells cs.toArray 54)) (Blk.old hx.1 hb0) (hS.below hb0 hB) (by have := hb0.size; omega) (Lib.hid hx.2.1.symm) (by have := hx.2.2; omega) hl9
  have c0 : (w.alloc (.cells cs.toArray 54)).cell? ⟨w.heap.size, 0, none⟩ = some (.iface 116 (.pointer (some ⟨x.g, 0, none⟩))) := by rw [(Blk.new w 54 cs.toArray).cell, hcs]; rfl
  have HC := Lib.hid hcall
  have hz := hb0.size
  clear hcall hcs hn
  go_enter Try.func33, Try.ntmps33
  go_wp2_with (
    go_at_call 42
    refine HC.out.mono ?_
    rintro e w2 ⟨gp, rfl, ho2, hn2⟩)
  go_ret2
  exact ⟨gp, rfl, ho2.more hz, (Onl.of_below (P := fun _ => False) hb0).tr hn2 (fun k hk e => e)⟩
end Go.Proofs.Ytcecfjblgakfeaa
