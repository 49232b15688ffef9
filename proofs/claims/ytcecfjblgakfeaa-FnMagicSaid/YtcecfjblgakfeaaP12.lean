/- What a section holds is read. -/
import Derived.Test.YtcecfjblgakfeaaP9
namespace Go.Proofs.Ytcecfjblgakfeaa
open Go.RowKit
set_option maxRecDepth 100000 in
set_option maxHeartbeats 400000 in
theorem size_any (gS g f n : Nat) (hn : f + n ≤ 1000000) (w : World) (hS : Sect w gS g f n) :
    Calls Try.prog 77 #[.pointer (some ⟨gS, 0, none⟩)] w fun e w' => e = .returned (.int .i64 n) ∧ ∃ q, w' = w.drewN q := by
  have c1 : w.cell? ⟨gS, 1, none⟩ = some (.int .i64 f) := by rw [hS.cell]; rfl
  have c3 : w.cell? ⟨gS, 3, none⟩ = some (.int .i64 ((n : Int) + f)) := by rw [hS.cell]; rfl
  have hw : IntKind.i64.wrap ((n : Int) + f - f) = (n : Int) := by rw [IntWalk.i64_in _ (by omega)]; omega
  go_enter Try.func77, Try.ntmps77
  go_wp2
  go_quiet (fail)
  go_wp2
  go_ret
  exact ⟨rfl, _, rfl⟩
/-- What a section gives at its head: all that it holds, and EOF. -/
def SecAll (gp : Nat) (cur : List Value) (l : List UInt8) (w : World) (e : Ending) (w' : World) : Prop :=
  e = .returned (.tuple #[.int .i64 l.length, EOFV]) ∧ Blk w' gp 5 (splice cur 0 (bv l)).toArray ∧ Onl (fun k => k = gp) w w'
theorem nil_nil (w : World) : (binOp .eql 57 .nilIface .nilIface).run Try.prog w = .ok (.bool true) w := by kernel_rfl
set_option maxRecDepth 100000 in
set_option maxHeartbeats 1000000 in
theorem secat_any (gS g b off B n c f gp m cp : Nat) (d l : List UInt8) (cur : List Value) (w : World) (hSec : Sect w gS g f l.length) (hS : Src w g b off B n c d) (hl : Hid (l = (d.drop f).take l.length)) (hfl : f + l.length ≤ n) (hlm : l.length < m) (hm : m ≤ 100000) (hmc : m ≤ cp) (hp : Blk w gp 5 cur.toArray) (hcur : m ≤ cur.length) :
    Calls Try.prog 76 #[.pointer (some ⟨gS, 0, none⟩), .slice (some ⟨gp, 0, none⟩) m cp, .int .i64 0] w (SecAll gp cur l w) := by
  have hn9 := hS.2.2.2
  obtain ⟨k, hk⟩ : ∃ k, k = l.length := ⟨_, rfl⟩
  rw [← hk] at hSec hfl hlm
  have hsz := fun W (hW : Sect W gS g f k) => size_any gS g f k (by omega) W hW
  have HZ := Lib.hid hsz
  have c0 : w.cell? ⟨gS, 0, none⟩ = some (.iface 71 (.pointer (some ⟨g, 0, none⟩))) := by rw [hSec.cell]; rfl
  have c1 : w.cell? ⟨gS, 1, none⟩ = some (.int .i64 f) := by rw [hSec.cell]; rfl
  have c3 : w.cell? ⟨gS, 3, none⟩ = some (.int .i64 ((k : Int) + f)) := by rw [hSec.cell]; rfl
  have hne : gS ≠ gp := hSec.ne_ hp (by decide)
  rcases Nat.eq_zero_or_pos k with h0 | h0
  · subst h0
    obtain rfl : l = [] := List.eq_nil_of_length_eq_zero hk.symm
    clear hk hsz
    go_enter Try.func76, Try.ntmps76
    go_wp2_with (go_at_call 77; refine (HZ.out _ hSec).mono ?_; rintro e w1 ⟨rfl, q, rfl⟩)
    go_ret2
    exact ⟨rfl, by simpa [splice, bv] using hp.drewN q, (Onl.refl _ w).drewN q⟩
  · have hmt := fun W => m71 ⟨g, 0, none⟩ W
    have hcall := fun q => readat_full g B b off n c gp k cp f d cur (w.drewN q) (hS.1.drewN q) (hS.2.1.drewN q) hS.2.2.1 (by omega) (by omega) h0 (hp.drewN q) (by omega)
    rw [hk, ← hl.out, ← hk] at hcall
    have HC := Lib.hid hcall
    have HK := Lib.hid hk
    have hnn := fun W => nil_nil W
    have hk0 : (0 : Int) < (k : Int) := by omega
    have hkm : (k : Int) < (m : Int) := by omega
    clear hcall hsz hk
    go_enter Try.func76, Try.ntmps76
    go_wp2_with (go_at_call 77; refine (HZ.out _ hSec).mono ?_; rintro e w1 ⟨rfl, q, rfl⟩; have d0 : (w.drewN q).cell? ⟨gS, 0, none⟩ = some (.iface 71 (.pointer (some ⟨g, 0, none⟩))) := c0; have d1 : (w.drewN q).cell? ⟨gS, 1, none⟩ = some (.int .i64 f) := c1; have d3 : (w.drewN q).cell? ⟨gS, 3, none⟩ = some (.int .i64 ((k : Int) + f)) := c3)
    refine (HC.out _).mono ?_
    rintro e w2 ⟨rfl, h2, g2⟩
    go_wp2
    go_ret2
    exact ⟨by rw [← HK.out]; rfl, h2, ((Onl.refl _ w).drewN q).tr (Onl.of_grown g2) (fun _ _ h => h)⟩
theorem m116a (a : Addr) (w : World) : (method 292 116 (.pointer (some a)) "ReadAt").run Try.prog w = .ok (76, .pointer (some a)) w := by kernel_rfl
theorem n116a (a : Addr) (w : World) : (nilAhead 292 116 (.pointer (some a)) "ReadAt").run Try.prog w = .ok (some false) w := by kernel_rfl
/-- The reader over a section. -/
def Over (w : World) (gO gS : Nat) : Prop := Blk w gO 119 #[.iface 116 (.pointer (some ⟨gS, 0, none⟩)), .int .i64 0, .int .i64 0, .int .i64 9223372036854775807, .int .i64 9223372036854775807]
set_option maxRecDepth 100000 in
set_option maxHeartbeats 1000000 in
theorem overread_any (gO gS g b off B n c f gp m cp : Nat) (d l : List UInt8) (cur : List Value) (w : World) (hO : Over w gO gS) (hSec : Sect w gS g f l.length) (hS : Src w g b off B n c d) (hl : Hid (l = (d.drop f).take l.length)) (hfl : f + l.length ≤ n) (hlm : l.length < m) (hm : m ≤ 100000) (hmc : m ≤ cp) (hp : Blk w gp 5 cur.toArray) (hcur : m ≤ cur.length) :
    Calls Try.prog 75 #[.pointer (some ⟨gO, 0, none⟩), .slice (some ⟨gp, 0, none⟩) m cp] w fun e w' => e = .returned (.tuple #[.int .i64 l.length, EOFV]) ∧ Blk w' gp 5 (splice cur 0 (bv l)).toArray ∧ Onl (fun k => k = gp ∨ k = gO) w w' := by
  have c0 : w.cell? ⟨gO, 0, none⟩ = some (.iface 116 (.pointer (some ⟨gS, 0, none⟩))) := by rw [hO.cell]; rfl
  have c2 : w.cell? ⟨gO, 2, none⟩ = some (.int .i64 0) := by rw [hO.cell]; rfl
  have c3 : w.cell? ⟨gO, 3, none⟩ = some (.int .i64 9223372036854775807) := by rw [hO.cell]; rfl
  have hne : gp ≠ gO := hp.ne_ hO (by decide)
  have hcall := fun q => secat_any gS g b off B n c f gp m cp d l cur (w.drewN q) (Blk.drewN hSec q) ⟨hS.1.drewN q, hS.2.1.drewN q, hS.2.2⟩ hl hfl hlm hm hmc (hp.drewN q) hcur
  have HC := Lib.hid hcall
  obtain ⟨k, hk⟩ : ∃ k, k = l.length := ⟨_, rfl⟩
  have hn9 := hS.2.2.2
  rw [← hk] at hfl hlm
  have HK := Lib.hid hk
  rw [← HK.out]
  clear hcall hk
  go_enter Try.func75, Try.ntmps75
  go_wp2
  go_quiet (fail)
  go_wp2
  go_quiet (fail)
  go_wp2
  have hmt := fun W => m116a ⟨gS, 0, none⟩ W
  go_region_held3 (fun w' => w'.cell? ⟨gO, 0, none⟩ = some (.iface 116 (.pointer (some ⟨gS, 0, none⟩))) ∧ w'.cell? ⟨gO, 2, none⟩ = some (.int .i64 0)) (go_keep)
    (first
      | (go_at_call 76
         refine (HC.out _).mono ?_
         rintro e w1 ⟨rfl, hw1, ho1⟩
         have hO1 : Blk w1 gO 119 _ := ho1.blk (Blk.drewN hO _) (fun e => hne e.symm)
         have d0 : w1.cell? ⟨gO, 0, none⟩ = some (.iface 116 (.pointer (some ⟨gS, 0, none⟩))) := by rw [hO1.cell]; rfl
         have d2 : w1.cell? ⟨gO, 2, none⟩ = some (.int .i64 0) := by rw [hO1.cell]; rfl))
  all_goals
    rw [← HK.out]
    have hf2 := hO1.frozen 2
    go_wp2
    go_ret2
    exact ⟨rfl, hw1.far (by simpa using hne) _, (((Onl.refl (fun k => k = gp ∨ k = gO) w).drewN _).tr ho1 (fun _ _ h => .inl h)).set_ (fun _ => .inr rfl) _⟩
end Go.Proofs.Ytcecfjblgakfeaa
