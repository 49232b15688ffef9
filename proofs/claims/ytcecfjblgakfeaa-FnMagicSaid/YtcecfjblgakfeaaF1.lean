/- The writer: what it has written lies in the buffer, and its position counts it. -/

import Derived.Test.YtcecfjblgakfeaaS2
namespace Go.Proofs.Ytcecfjblgakfeaa
open Go.RowKit
theorem m82 (a : Addr) (w : World) : (method 292 82 (.pointer (some a)) "Write").run Try.prog w = .ok (69, .pointer (some a)) w := by kernel_rfl
/-- The buffer behind the writer holds these bytes. -/
def Bufd (w : World) (base gB : Nat) (l : List UInt8) : Prop :=
  ∃ A c, Blk w gB 75 #[.slice A l.length c] ∧ Own w base 5 1 (.slice A l.length c) l.length (bv l) ∧ base ≤ gB
/-- The writer has written these bytes. -/
def Wst (w : World) (base gW gB : Nat) (l : List UInt8) : Prop :=
  Blk w gW 147 #[.string ⟨magic.toArray⟩, .iface 82 (.pointer (some ⟨gB, 0, none⟩)), .int .i64 l.length] ∧ base ≤ gW ∧ Bufd w base gB l
/-- What a write comes to. -/
def Wrote (base gB : Nat) (S : List TypeId) (m : Nat) (L : List UInt8) (w : World) (e : Ending) (w' : World) : Prop :=
  e = .returned (.tuple #[.int .i64 m, .nilIface]) ∧ Bufd w' base gB L ∧ Fr base S w w'
/-- What a write through the writer comes to: it counts, too. -/
def WroteW (base gW gB m : Nat) (L : List UInt8) (w : World) (e : Ending) (w' : World) : Prop :=
  e = .returned (.tuple #[.int .i64 m, .nilIface]) ∧ Wst w' base gW gB L ∧ Fr base [5, 75, 147] w w'
set_option maxRecDepth 100000 in
set_option maxHeartbeats 400000 in
theorem bufwrite_any (base gB B m c : Nat) (A : Option Addr) (l l' L : List UInt8) (w : World) (hL : Hid (L = l ++ l')) (hn : l.length + m ≤ 100000000) (hw : Bufd w base gB l) (hr : Rd w B 1 A m (bv l')) :
    Calls Try.prog 69 #[.pointer (some ⟨gB, 0, none⟩), .slice A m c] w (Wrote base gB [5, 75] m L w) := by
  obtain ⟨A0, c0, hb, ho, hg⟩ := hw
  have hbc : w.cell? ⟨gB, 0, none⟩ = some (.slice A0 l.length c0) := by rw [hb.cell]; rfl
  go_enter Try.func69, Try.ntmps69
  go_wp2_with (
     at_builtin
     refine wpList_appb _ rfl (.tmp 10) (.tmp 11) rfl base (.slice A0 l.length c0) _ l rfl ho B A m c l' rfl hr L hL (by omega) (by have := hb.lt; omega) ?_
     intro A1 c1 w1 ho1 hg1 hat1
     have hne : (Value.slice A0 l.length c0).ownBlock ≠ some gB := ho.blk_ne hb (by decide)
     have hb1 : Blk w1 gB 75 #[.slice A0 l.length c0] := (hg1.block gB hb.lt (fun e => hne e.symm)).trans hb
     have hc1 : w1.cell? ⟨gB, 0, none⟩ = some (.slice A0 l.length c0) := by rw [hb1.cell]; rfl
     have hf1 := hb1.frozen 0)
  go_ret2
  refine ⟨rfl, ⟨A1, c1, hb1.set_ 0 _, ho1.set_ (ho1.blk_ne hb1 (by decide)) _, hg⟩, ?_⟩
  exact ((Fr.refl base [5, 75] w).grown hg1 (own_row ho (by simp))).set_ hb1 hg (by simp) _
set_option maxRecDepth 100000 in
set_option maxHeartbeats 400000 in
theorem write_any (base gW gB B m c : Nat) (A : Option Addr) (l l' L : List UInt8) (w : World) (hL : Hid (L = l ++ l')) (hm : l'.length = m) (hn : l.length + m ≤ 100000000) (hw : Wst w base gW gB l) (hr : Rd w B 1 A m (bv l')) :
    Calls Try.prog 89 #[.pointer (some ⟨gW, 0, none⟩), .slice A m c] w (WroteW base gW gB m L w) := by
  obtain ⟨hb, hgb, hbuf⟩ := hw
  have hb1 : w.cell? ⟨gW, 1, none⟩ = some (.iface 82 (.pointer (some ⟨gB, 0, none⟩))) := by rw [hb.cell]; rfl
  have hb2 : w.cell? ⟨gW, 2, none⟩ = some (.int .i64 l.length) := by rw [hb.cell]; rfl
  go_enter Try.func89, Try.ntmps89
  have hmt := m82 ⟨gB, 0, none⟩ w
  go_wp2_with fail
  refine (bufwrite_any base gB B m c A l l' L w hL hn hbuf hr).mono ?_
  rintro e w1 ⟨rfl, hbuf1, hf1⟩
  have hbw1 := hf1.blk hb (.inr (by decide))
  have hc1 : w1.cell? ⟨gW, 2, none⟩ = some (.int .i64 l.length) := by rw [hbw1.cell]; rfl
  have hfz := hbw1.frozen 2
  go_wp2
  go_ret2
  have eL : (L.length : Int) = l.length + m := by rw [hL.out, List.length_append, hm]; omega
  have hset := hbw1.set_ 2 (.int .i64 (L.length : Int))
  refine ⟨rfl, ⟨?_, hgb, ?_⟩, ?_⟩
  · rw [eL] at hset
    simpa [eL] using hset
  · obtain ⟨A2, c2, h1, h2, h3⟩ := hbuf1
    exact ⟨A2, c2, h1.far (by simpa using h1.ne_ hbw1 (by decide)) _, h2.set_ (h2.blk_ne hbw1 (by decide)) _, h3⟩
  · exact (hf1.more (Nat.le_refl _) (by simp)).set_ hbw1 hgb (by simp) _
end Go.Proofs.Ytcecfjblgakfeaa
