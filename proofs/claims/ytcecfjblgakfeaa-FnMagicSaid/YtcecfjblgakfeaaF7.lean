/- What is read is copied to the writer, in one round. -/

import Derived.Test.YtcecfjblgakfeaaF6
import Derived.Stop.Asserts
namespace Go.Proofs.Ytcecfjblgakfeaa
open Go.RowKit
theorem ta1 (a : Addr) (w : World) : (Instr.typeAssert (.iface 116 (.pointer (some a))) 107 179 true).run Try.prog w = .ok (.tuple #[.nilIface, .bool false]) w := run_typeAssert_lacksB Try.underlying179 (by kernel_rfl) (by kernel_rfl) _ _ w
theorem ta2 (a : Addr) (w : World) : (Instr.typeAssert (.iface 145 (.pointer (some a))) 138 183 true).run Try.prog w = .ok (.tuple #[.nilIface, .bool false]) w := run_typeAssert_lacksB Try.underlying183 (by kernel_rfl) (by kernel_rfl) _ _ w
theorem ta3 (a : Addr) (w : World) : (Instr.typeAssert (.iface 116 (.pointer (some a))) 107 186 true).run Try.prog w = .ok (.tuple #[.pointer none, .bool false]) w := by kernel_rfl
theorem m116r (a : Addr) (w : World) : (method 292 116 (.pointer (some a)) "Read").run Try.prog w = .ok (75, .pointer (some a)) w := by kernel_rfl
theorem m145 (a : Addr) (w : World) : (method 292 145 (.pointer (some a)) "Write").run Try.prog w = .ok (89, .pointer (some a)) w := by kernel_rfl
theorem n145 (a : Addr) (w : World) : (nilAhead 292 145 (.pointer (some a)) "Write").run Try.prog w = .ok (some false) w := by kernel_rfl
theorem mk_buf (w : World) : ∃ cur : List Value, 300 ≤ cur.length ∧ (Instr.makeSlice 28 (.int .i64 32768) (.int .i64 32768)).run Try.prog w = .ok (.slice (some ⟨w.heap.size, 0, none⟩) 32768 32768) (w.alloc (.cells cur.toArray 5)) :=
  ⟨List.replicate 32768 (.int .u8 0), by rw [List.length_replicate]; omega, mk_bytes 32768 (by omega) w⟩
theorem Wst.drew {w : World} {base gW gB : Nat} {l : List UInt8} (h : Wst w base gW gB l) : Wst w.drew base gW gB l := h
theorem eof_neq (w : World) : (binOp .neq 57 EOFV EOFV).run Try.prog w = .ok (.bool false) w := by kernel_rfl
theorem eof_eql (w : World) : (binOp .eql 57 EOFV EOFV).run Try.prog w = .ok (.bool true) w := by kernel_rfl
/-- What the copy comes to. -/
def Copied (base gW gB m : Nat) (L : List UInt8) (w : World) (e : Ending) (w' : World) : Prop :=
  e = .returned (.tuple #[.int .i64 m, .nilIface]) ∧ Wst w' base gW gB L ∧ Fr base [5, 75, 147] w w'
theorem qn (w : World) (a : Option Addr) (n c n' c' : Nat) : (binOp .eql 28 (.slice a n c) (.slice none n' c')).run Try.prog w = .ok (.bool a.isNone) w := Lib.run_eql_slice_nil w _ _ a n c n' c' Try.underlying28
set_option maxRecDepth 100000 in
set_option maxHeartbeats 400000 in
theorem copy_none (r : Rec) (gS g c base gW gB : Nat) (A : Option Addr) (l : List UInt8) (w0 w : World) (hw0 : Wst w0 base gW gB l) (h0 : w0.heap.size ≤ gS) (hbel : Below w0.heap.size w0 w)
    (hS : Blk w gS 119 #[.iface 54 (.agg (cRecCells r g)), .int .i64 0, .int .i64 0, .int .i64 9223372036854775807, .int .i64 9223372036854775807])
    (hb : Blk w g 73 #[.slice A 0 c, .int .i64 0]) :
    Calls Try.prog 97 #[.iface 145 (.pointer (some ⟨gW, 0, none⟩)), .iface 116 (.pointer (some ⟨gS, 0, none⟩)), .slice none 0 0] w (Copied base gW gB 0 l w0) := by
  obtain ⟨cur, hcl, hmk⟩ := mk_buf w
  have t1 := ta1 ⟨gS, 0, none⟩ w
  have t2 := ta2 ⟨gW, 0, none⟩ w
  have t3 := ta3 ⟨gS, 0, none⟩ w
  have hm1 := fun W => m116r ⟨gS, 0, none⟩ W
  have hq := qn w
  go_enter Try.func97, Try.ntmps97
  have hlt : gS < w.heap.size := hS.lt
  go_wp2_with fail
  refine wp_loop_once ?_
  have hrd := secread_none r gS g c A (.slice (some ⟨w.heap.size, 0, none⟩) 32768 32768) 32768 _ (w.alloc (.cells cur.toArray 5)) (hS.alloc _) (hb.alloc _) (by omega) rfl
  have he := fun W => eof_neq W
  go_wp2_with (go_at_call 75; refine hrd.mono ?_; rintro e w1 ⟨rfl, hw1⟩)
  go_ret2
  have hbw : Below w0.heap.size w0 w1 := (hbel.alloc hbel.size _).trans (hw1.mono h0)
  exact ⟨rfl, hw0.old hbw, Fr.of_below hbw⟩
set_option maxRecDepth 100000 in
set_option maxHeartbeats 400000 in
theorem copy_some (r : Rec) (gS g c b off B base gW gB : Nat) (l L : List UInt8) (hL : Hid (L = l ++ r.data)) (hll : l.length ≤ 10000000) (w0 w : World) (hw0 : Wst w0 base gW gB l) (h0 : w0.heap.size ≤ gS) (hbel : Below w0.heap.size w0 w)
    (hS : Blk w gS 119 #[.iface 54 (.agg (cRecCells r g)), .int .i64 0, .int .i64 0, .int .i64 9223372036854775807, .int .i64 9223372036854775807])
    (hb : Blk w g 73 #[.slice (some ⟨b, off, none⟩) r.data.length c, .int .i64 0])
    (hr : Rd w B 1 (some ⟨b, off, none⟩) r.data.length (bv r.data)) (hnc : r.data.length ≤ c) (hp0 : 0 < r.data.length) (hd : r.data.length ≤ 300) (hB : B ≤ w.heap.size) :
    Calls Try.prog 97 #[.iface 145 (.pointer (some ⟨gW, 0, none⟩)), .iface 116 (.pointer (some ⟨gS, 0, none⟩)), .slice none 0 0] w (Copied base gW gB r.data.length L w0) := by
  obtain ⟨cur, hcl, hmk⟩ := mk_buf w
  have t1 := ta1 ⟨gS, 0, none⟩ w
  have t2 := ta2 ⟨gW, 0, none⟩ w
  have t3 := ta3 ⟨gS, 0, none⟩ w
  have hm1 := fun W => m116r ⟨gS, 0, none⟩ W
  have hm2 := fun W => m145 ⟨gW, 0, none⟩ W
  have hm3 := fun W => n145 ⟨gW, 0, none⟩ W
  have hq := qn w
  have hlt : gS < w.heap.size := hS.lt
  have hbn := Blk.new w 5 cur.toArray
  have hrd := secread_short r gS g B b off c w.heap.size 32768 cur (w.alloc (.cells cur.toArray 5)) (hS.alloc _) (hb.alloc _) (hr.alloc hB _) hnc hp0 hd (by omega) (by omega) hbn hcl hlt
  have he := fun W => eof_neq W
  go_enter Try.func97, Try.ntmps97
  go_wp2_with fail
  refine wp_loop_once ?_
  go_wp2_with (go_at_call 75; refine hrd.mono ?_; rintro e w1 ⟨rfl, hw1, hb1⟩)
  have hbw : Below w0.heap.size w0 w1 := (hbel.alloc hbel.size _).trans (hb1.mono h0)
  have hws : Wst w1 base gW gB l := hw0.old hbw
  have hrow : Rd w1 (w.heap.size + 1) 1 (some ⟨w.heap.size, 0, none⟩) r.data.length (bv r.data) :=
    ⟨by rw [bv_len, Nat.mul_one], fun _ => ⟨w.heap.size, 0, rfl, by omega, fun j u hj => by
      have hjl := (List.getElem?_eq_some_iff.1 hj).1
      rw [Nat.zero_add, hw1.cell]
      simp only [splice, List.take_zero, List.nil_append, List.getElem?_toArray]
      rw [List.getElem?_append_left hjl, hj]⟩⟩
  have hi1 : (0 : Int) ≤ (r.data.length : Int) := by omega
  have hi2 : (r.data.length : Int) ≤ 32768 := by omega
  go_region_held3 (fun _ => True) (trivial)
    (first
      | (go_at_call 89
         refine (write_any base gW gB (w.heap.size + 1) r.data.length 32768 _ l r.data L _ hL rfl (by omega) hws.drew hrow.drew).mono ?_
         rintro e w2 ⟨rfl, hws2, hf2⟩))
  all_goals
    go_wp2
    go_ret2
    exact ⟨rfl, hws2, (Fr.of_below hbw.drew).trans hf2⟩
end Go.Proofs.Ytcecfjblgakfeaa
