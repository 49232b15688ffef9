/- Sections of readers, and the copy of a record that is held in memory. -/

import Derived.Test.YtcecfjblgakfeaaF7
namespace Go.Proofs.Ytcecfjblgakfeaa
open Go.RowKit
set_option maxRecDepth 100000 in
set_option maxHeartbeats 400000 in
theorem section_all (t : TypeId) (v : Value) (w : World) :
    Calls Try.prog 50 #[.iface t v, .int .i64 0, .int .i64 9223372036854775807] w fun e w' => e = .returned (.pointer (some ⟨w.heap.size, 0, none⟩)) ∧
      w' = w.alloc (.cells #[.iface t v, .int .i64 0, .int .i64 0, .int .i64 9223372036854775807, .int .i64 9223372036854775807] 119) := by
  go_enter Try.func50, Try.ntmps50
  go_wp2
  go_ret
  exact ⟨rfl, rfl⟩
set_option maxRecDepth 100000 in
set_option maxHeartbeats 400000 in
theorem section_part (t : TypeId) (v : Value) (off n : Nat) (ho : off ≤ 1000000000) (hn : n ≤ 1000000000) (w : World) :
    Calls Try.prog 50 #[.iface t v, .int .i64 off, .int .i64 n] w fun e w' => e = .returned (.pointer (some ⟨w.heap.size, 0, none⟩)) ∧
      w' = w.alloc (.cells #[.iface t v, .int .i64 off, .int .i64 off, .int .i64 (n + off), .int .i64 n] 119) := by
  go_enter Try.func50, Try.ntmps50
  go_wp2
  go_ret
  exact ⟨rfl, rfl⟩
set_option maxRecDepth 100000 in
set_option maxHeartbeats 400000 in
theorem reader_all (t : TypeId) (v : Value) (w : World) :
    Calls Try.prog 49 #[.iface t v] w fun e w' => e = .returned (.iface 116 (.pointer (some ⟨w.heap.size, 0, none⟩))) ∧
      w' = w.alloc (.cells #[.iface t v, .int .i64 0, .int .i64 0, .int .i64 9223372036854775807, .int .i64 9223372036854775807] 119) := by
  go_enter Try.func49, Try.ntmps49
  go_wp2_with (go_at_call 50; refine (section_all _ _ _).mono ?_; rintro e w1 ⟨rfl, rfl⟩)
  go_ret
  exact ⟨rfl, rfl⟩
/-- The data that a record's reader holds. -/
def Held (w : World) (B : Nat) (r : Rec) (g : Nat) : Prop :=
  ∃ A c, Blk w g 73 #[.slice A r.data.length c, .int .i64 0] ∧ Rd w B 1 A r.data.length (bv r.data) ∧ r.data.length ≤ c
theorem Held.keep {w w' : World} {B : Nat} {r : Rec} {g : Nat} (h : Held w B r g) (hg : g < B) (hb : Below B w w') : Held w' B r g := by
  obtain ⟨A, c, h1, h2, h3⟩ := h
  exact ⟨A, c, h1.below hb hg, h2.below hb, h3⟩
set_option maxRecDepth 100000 in
set_option maxHeartbeats 400000 in
theorem copy_any (r : Rec) (gS g B base gW gB : Nat) (l L : List UInt8) (hL : Hid (L = l ++ r.data)) (hll : l.length ≤ 10000000) (w0 w : World) (hw0 : Wst w0 base gW gB l) (h0 : w0.heap.size ≤ gS) (hbel : Below w0.heap.size w0 w)
    (hS : Blk w gS 119 #[.iface 54 (.agg (cRecCells r g)), .int .i64 0, .int .i64 0, .int .i64 9223372036854775807, .int .i64 9223372036854775807])
    (hh : Held w B r g) (hd : r.data.length ≤ 300) (hB : B ≤ w.heap.size) :
    Calls Try.prog 95 #[.iface 145 (.pointer (some ⟨gW, 0, none⟩)), .iface 116 (.pointer (some ⟨gS, 0, none⟩))] w (Copied base gW gB r.data.length L w0) := by
  obtain ⟨A, c, hb, hr, hc⟩ := hh
  have hcall : Calls Try.prog 97 #[.iface 145 (.pointer (some ⟨gW, 0, none⟩)), .iface 116 (.pointer (some ⟨gS, 0, none⟩)), .slice none 0 0] w (Copied base gW gB r.data.length L w0) := by
    rcases Nat.eq_zero_or_pos r.data.length with hz | hz
    · have hn : r.data = [] := List.eq_nil_of_length_eq_zero hz
      have hLl : L = l := by rw [hL.out, hn, List.append_nil]
      rw [hz, hLl]
      rw [hz] at hb
      exact copy_none r gS g c base gW gB A l w0 w hw0 h0 hbel hS hb
    · obtain ⟨b, off, rfl, _, _⟩ := hr.2 hz
      exact copy_some r gS g c b off B base gW gB l L hL hll w0 w hw0 h0 hbel hS hb hr hc hz hd hB
  have HC := Lib.hid hcall
  clear hcall
  go_enter Try.func95, Try.ntmps95
  go_wp2_with (go_at_call 97; refine HC.out.mono ?_; rintro e w1 ⟨rfl, h1, h2⟩)
  go_ret2
  exact ⟨rfl, h1, h2⟩
end Go.Proofs.Ytcecfjblgakfeaa
