/- The writer's padding. -/
import Derived.Test.YtcecfjblgakfeaaF1
namespace Go.Proofs.Ytcecfjblgakfeaa
open Go.RowKit
theorem and_low (x : Nat) (hx : x < 2 ^ 64) : x &&& (2 ^ 64 - 4) = x / 4 * 4 := by
  apply Nat.eq_of_testBit_eq
  intro i
  rw [Nat.testBit_and]
  have e1 : (2 ^ 64 - 4 : Nat) = (2 ^ 62 - 1) * 2 ^ 2 := by decide
  have e2 : x / 4 * 4 = (x / 2 ^ 2) * 2 ^ 2 := by rfl
  rw [e1, e2, Nat.testBit_mul_two_pow, Nat.testBit_mul_two_pow, Nat.testBit_two_pow_sub_one, Nat.testBit_div_two_pow]
  by_cases hi : 2 ≤ i
  · have : i - 2 + 2 = i := by omega
    simp only [hi, decide_true, Bool.true_and, this]
    by_cases h64 : i - 2 < 62
    · simp [h64]
    · have : x.testBit i = false := Nat.testBit_lt_two_pow (Nat.lt_of_lt_of_le hx (Nat.pow_le_pow_right (by omega) (by omega)))
      simp [this]
  · simp [hi]
theorem round_nat (n : Nat) (h : n ≤ 1000000000) : bits .andNot .i64 ((n : Int) + 3) 3 = (((n + 3) / 4 * 4 : Nat) : Int) := by
  show IntKind.i64.wrap ((BitVec.ofInt 64 ((n : Int) + 3) &&& ~~~ BitVec.ofInt 64 3).toNat : Int) = _
  have e : (BitVec.ofInt 64 ((n : Int) + 3)).toNat = n + 3 := by
    rw [show ((n : Int) + 3) = ((n + 3 : Nat) : Int) from rfl, BitVec.ofInt_natCast, BitVec.toNat_ofNat]
    exact Nat.mod_eq_of_lt (by omega)
  have e3 : (~~~ BitVec.ofInt 64 3).toNat = 2 ^ 64 - 4 := by decide
  rw [BitVec.toNat_and, e, e3, and_low _ (by omega), IntKind.wrap_i64]
  omega
theorem round4_any (n : Nat) (h : n ≤ 1000000000) (w : World) :
    Calls Try.prog 85 #[.int .i64 n] w fun e w' => e = .returned (.int .i64 (((n + 3) / 4 * 4 : Nat) : Int)) ∧ w = w' := by
  have hr := round_nat n h
  go_enter Try.func85, Try.ntmps85
  go_wp2
  go_ret
  exact ⟨rfl, rfl⟩
theorem Bufd.old {w w' : World} {base gB : Nat} {l : List UInt8} (h : Bufd w base gB l) (hb : Below w.heap.size w w') : Bufd w' base gB l := by
  obtain ⟨A, c, h1, h2, h3⟩ := h
  exact ⟨A, c, h1.old hb, h2.old hb, h3⟩
theorem Wst.old {w w' : World} {base gW gB : Nat} {l : List UInt8} (h : Wst w base gW gB l) (hb : Below w.heap.size w w') : Wst w' base gW gB l :=
  ⟨h.1.old hb, h.2.1, h.2.2.old hb⟩
theorem Wst.alloc {w : World} {base gW gB : Nat} {l : List UInt8} (h : Wst w base gW gB l) (o : Obj) : Wst (w.alloc o) base gW gB l := h.old ((Below.refl _ _).alloc (Nat.le_refl _) o)
theorem Wst.lt {w : World} {base gW gB : Nat} {l : List UInt8} (h : Wst w base gW gB l) : base < w.heap.size := Nat.lt_of_le_of_lt h.2.1 h.1.lt
/-- A call that hands back no error and writes these bytes. -/
def WroteE (base gW gB : Nat) (S : List TypeId) (L : List UInt8) (w : World) (e : Ending) (w' : World) : Prop :=
  e = .returned .nilIface ∧ Wst w' base gW gB L ∧ Fr base S w w'
theorem slice3 (a : Addr) (d : Nat) (h1 : 1 ≤ d) (h3 : d ≤ 3) (w : World) : (Instr.sliceAt 174 (.pointer (some a)) none (some (.int .i64 (d : Int))) none).run Try.prog w = .ok (.slice (some a) d 3) w := by
  have k1 : (Instr.sliceAt 174 (.pointer (some a)) none (some (.int .i64 1)) none).run Try.prog w = .ok (.slice (some a) 1 3) w := by kernel_rfl
  have k2 : (Instr.sliceAt 174 (.pointer (some a)) none (some (.int .i64 2)) none).run Try.prog w = .ok (.slice (some a) 2 3) w := by kernel_rfl
  have k3 : (Instr.sliceAt 174 (.pointer (some a)) none (some (.int .i64 3)) none).run Try.prog w = .ok (.slice (some a) 3 3) w := by kernel_rfl
  have hd : d = 1 ∨ d = 2 ∨ d = 3 := by omega
  rcases hd with rfl | rfl | rfl
  · exact k1
  · exact k2
  · exact k3
set_option maxRecDepth 100000 in
set_option maxHeartbeats 400000 in
theorem pad_w (base gW gB : Nat) (l : List UInt8) (w : World) (hn : l.length ≤ 10000000) (hw : Wst w base gW gB l) :
    Calls Try.prog 91 #[.pointer (some ⟨gW, 0, none⟩)] w (WroteE base gW gB [5, 75, 147] (pad4 l) w) := by
  have hw0 := hw
  obtain ⟨hb, hgb, hbuf⟩ := hw0
  have hb2 : w.cell? ⟨gW, 2, none⟩ = some (.int .i64 l.length) := by rw [hb.cell]; rfl
  by_cases h4 : l.length % 4 = 0
  · have e : ((((l.length + 3) / 4 * 4 : Nat) : Int) != (l.length : Int)) = false := by simp; omega
    have HP := Lib.hid (pad4_done l h4)
    clear h4
    go_enter Try.func91, Try.ntmps91
    go_wp2_with (go_at_call 85; refine (round4_any l.length (by omega) _).mono ?_; rintro e w1 ⟨rfl, rfl⟩)
    go_ret
    exact ⟨rfl, by rw [HP.out]; exact hw, Fr.refl _ _ _⟩
  · obtain ⟨d, hd⟩ : ∃ d, d = (4 - l.length % 4) % 4 := ⟨_, rfl⟩
    have hm : ((((l.length + 3) / 4 * 4 : Nat)) : Int) = (l.length : Int) + (d : Int) := by omega
    have hd3 : d ≤ 3 := by omega
    have hd1 : 1 ≤ d := by omega
    have e : ((l.length : Int) + (d : Int) != (l.length : Int)) = true := by simp; omega
    have hglt := hb.lt
    have hsl := slice3 ⟨w.heap.size, 0, none⟩ d hd1 hd3 (w.alloc (.cells #[.int .u8 0, .int .u8 0, .int .u8 0] 174))
    have hsub : (l.length : Int) + (d : Int) - (l.length : Int) = d := by omega
    have HD := Lib.hid hd
    have HM := Lib.hid hm
    clear hm hd h4
    go_enter Try.func91, Try.ntmps91
    go_wp2_with (go_at_call 85; refine (round4_any l.length (by omega) _).mono ?_; rw [HM.out]; rintro e w1 ⟨rfl, rfl⟩)
    refine (write_any base gW gB (w.heap.size + 1) d 3 _ l (fill l.length) (pad4 l) _ rfl (by rw [fill_len, HD.out]) (by omega) (hw.alloc _) ?_).mono ?_
    · refine ⟨by rw [bv_len, fill_len, HD.out, Nat.mul_one], fun _ => ⟨w.heap.size, 0, rfl, by omega, fun j u hj => ?_⟩⟩
      rw [Nat.zero_add, (Blk.new w 174 _).cell]
      have hf : fill l.length = List.replicate d 0 := by rw [fill, ← HD.out]
      have hjl := (List.getElem?_eq_some_iff.1 hj).1
      rw [bv_len, hf, List.length_replicate] at hjl
      rw [hf, bv_at _ _ (by simpa using hjl)] at hj
      simp only [List.getElem_replicate] at hj
      rw [← hj]
      have hj3 : j = 0 ∨ j = 1 ∨ j = 2 := by omega
      rcases hj3 with rfl | rfl | rfl <;> rfl
    · rintro e w1 ⟨rfl, hw1, hf1⟩
      go_wp2
      go_ret
      exact ⟨rfl, hw1, (Fr.of_below ((Below.refl _ _).alloc (Nat.le_refl _) _)).trans hf1⟩
end Go.Proofs.Ytcecfjblgakfeaa
