/- The reference's small functions: hex writes eight digits, padded fills up to four bytes. -/
import Derived.Test.YtcecfjblgakfeaaW
import Derived.Test.YtcecfjblgakfeaaM
import Derived.Lib.Hide
namespace Go.Proofs.Ytcecfjblgakfeaa
open Go.RowKit
theorem u8_info : (Try.prog.info? 5).map (fun i => (i.zero, i.size, i.bytes)) = some (some (.int .u8 0), 1, 1) := by kernel_rfl
set_option maxRecDepth 100000 in
theorem mk_bytes (N : Nat) (hN : N ≤ 65536) (w : World) : (Instr.makeSlice 28 (.int .i64 (N : Int)) (.int .i64 (N : Int))).run Try.prog w = .ok (.slice (some ⟨w.heap.size, 0, none⟩) N N) (w.alloc (.cells (List.replicate N (.int .u8 0)).toArray 5)) := by
  obtain ⟨i0, hi, hz0, hz1, hz2⟩ := info_parts u8_info
  have := run_make (P := Try.prog) w 28 5 i0 (.int .u8 0) Try.underlying28 hi hz0 .i64 .i64 N N (by omega) (by omega) (by rw [hz2]; omega) (by omega)
  rw [this]
  congr 3
  simp only [hz1, Int.toNat_natCast, Nat.mul_one, Value.cells]
  rw [← toList_madeCells_one]
theorem and15 (m : Nat) (h : m < 18446744073709551616) : bits .and .u64 (m : Int) 15 = ((m % 16 : Nat) : Int) := by
  have := u64_and_nat m 15 h (by omega)
  rw [show ((15 : Nat) : Int) = 15 from rfl] at this
  rw [this, show (15 : Nat) = 2 ^ 4 - 1 from rfl, Nat.and_two_pow_sub_one_eq_mod]
theorem dig_lit (d : Nat) (h : d < 16) : ((⟨#[48, 49, 50, 51, 52, 53, 54, 55, 56, 57, 65, 66, 67, 68, 69, 70]⟩ : ByteArray)[d]'h) = dig d := by
  have : ∀ d : Fin 16, ((⟨#[48, 49, 50, 51, 52, 53, 54, 55, 56, 57, 65, 66, 67, 68, 69, 70]⟩ : ByteArray)[d.val]'d.isLt) = dig d.val := by decide
  exact this ⟨d, h⟩
/-- hex's row behind k rounds. -/
def hexRow (n k : Nat) : List Value := List.replicate (8 - k) (.int .u8 0) ++ bv (low k n)
theorem hexRow_len (n k : Nat) (h : k ≤ 8) : (hexRow n k).length = 8 := by simp [hexRow, bv_len, low_len]; omega
theorem hexRow_at (n k : Nat) (h : k < 8) : (hexRow n k)[7 - k]? = some (.int .u8 0) := by
  unfold hexRow
  rw [List.getElem?_append_left (by rw [List.length_replicate]; omega), List.getElem?_replicate, if_pos (by omega)]
theorem hexRow_set (n k : Nat) (h : k < 8) : (hexRow n k).set (7 - k) (.int .u8 ((dig (n / 16 ^ k % 16)).toNat : Int)) = hexRow n (k + 1) := by
  unfold hexRow
  have e : 8 - k = (7 - k) + 1 := by omega
  rw [e, List.replicate_succ', List.append_assoc, List.set_append_right _ _ (by simp)]
  simp [low, bv, show 8 - (k + 1) = 7 - k by omega]
set_option maxRecDepth 100000 in
set_option maxHeartbeats 400000 in
theorem hex_any (n : Nat) (hn : n < 18446744073709551616) (w : World) :
    Calls Try.prog 28 #[.int .u64 n] w fun e w' => e = .returned (.string ⟨(low 8 n).toArray⟩) ∧ Below w.heap.size w w' := by
  have hmk : (Instr.makeSlice 28 (.int .i64 8) (.int .i64 8)).run Try.prog w = .ok (.slice (some ⟨w.heap.size, 0, none⟩) 8 8) (w.alloc (.cells (hexRow n 0).toArray 5)) := mk_bytes 8 (by omega) w
  go_enter Try.func28, Try.ntmps28
  go_wp2
  go_loopw [0, 8] (fun v i wr => ∃ k : Nat, k ≤ 8 ∧ i = .int .i64 k ∧ v = .int .u64 (n / 16^k : Nat) ∧ Blk wr w.heap.size 5 (hexRow n k).toArray ∧ Below w.heap.size w wr) (fun _ i _ => 8 - (intOf i).toNat)
  case atStart => exact ⟨0, by omega, rfl, by simp, Blk.new _ _ _, (Below.refl _ _).alloc (Nat.le_refl _) _⟩
  case round =>
    obtain ⟨k, hk, rfl, rfl, hblk, hbel⟩ := hrel
    have hn1 : n / 16^k < 18446744073709551616 := Nat.lt_of_le_of_lt (Nat.div_le_self _ _) hn
    have hsz := hbel.size
    have hdiv : n / 16 ^ k / 16 = n / 16 ^ (k + 1) := by rw [Nat.pow_succ, Nat.div_div_eq_div_mul]
    obtain ⟨m, hm⟩ : ∃ m, m = n / 16 ^ k := ⟨_, rfl⟩
    rw [← hm] at hn1 hdiv ⊢
    have HM := Lib.hid hm; clear hm
    have HD := Lib.hid hdiv; clear hdiv
    have hand := and15 m hn1
    by_cases hlt : k < 8
    · have hc : wr.cell? ⟨w.heap.size, 7 - k, none⟩ = some (.int .u8 0) := by rw [hblk.cell]; simpa using hexRow_at n k hlt
      have hf : wr.frozen? ⟨w.heap.size, 7 - k, none⟩ = false := hblk.frozen _
      go_wp2
      refine ⟨⟨k + 1, by omega, by go_num, by rw [← HD.out]; go_num, ?_, hbel.setCell (Nat.le_refl _) _⟩, by simp [intOf]; omega⟩
      rw [dig_lit (m % 16) (by omega), HM.out, ← hexRow_set n k hlt]
      have := hblk.set_ (7 - k) (.int .u8 ((dig (n / 16 ^ k % 16)).toNat : Int))
      simpa using this
    · have hk8 : k = 8 := by omega
      subst hk8
      have hcv := run_str (P := Try.prog) wr 28 9 5 (w.heap.size + 1) (some ⟨w.heap.size, 0, none⟩) 8 8 (low 8 n) Try.underlying28 Try.underlying5 Try.underlying9
        ⟨by rw [bv_len, low_len], fun _ => ⟨w.heap.size, 0, rfl, by omega, fun j u hu => by rw [Nat.zero_add, hblk.cell]; simpa [hexRow] using hu⟩⟩
      go_wp2
      go_ret
      exact ⟨rfl, hbel⟩

/-- A call hands back a row of its own with these bytes; only rows of bytes from 'base' on have turned. -/
def RetOwn (base : Nat) (S : List TypeId) (l : List UInt8) (w : World) (e : Ending) (w' : World) : Prop :=
  ∃ A c, e = .returned (.slice A l.length c) ∧ Own w' base 5 1 (.slice A l.length c) l.length (bv l) ∧ Fr base S w w'
def lenV : Value → Nat | .slice _ n _ => n | _ => 0
theorem new_rd (w : World) (l : List Value) (t : TypeId) : Rd (w.alloc (.cells l.toArray t)) (w.heap.size + 1) 1 (some ⟨w.heap.size, 0, none⟩) l.length l :=
  ⟨by simp, fun _ => ⟨w.heap.size, 0, rfl, by omega, fun j u hj => by rw [Nat.zero_add, (Blk.new w t l.toArray).cell]; simpa using hj⟩⟩
/-- append of bytes onto a row of bytes of the call's own; the sum bears a name. -/
theorem wp_appb {o : Oper} {a : Act} {K : Act → World → Prop} {Q : Exit → Act → World → Prop} (w : World) (s x : Operand)
    (ho : o.op = .call { callee := .builtin .append, args := #[s, x], argTypes := #[28, 28] })
    (base : Nat) (v : Value) (n : Nat) (l : List UInt8) (hs : a.eval s = v) (hown : Own w base 5 1 v n (bv l))
    (B : Nat) (A : Option Addr) (m c : Nat) (l' : List UInt8) (hx : a.eval x = .slice A m c) (hr : Rd w B 1 A m (bv l'))
    (L : List UInt8) (hL : Hid (L = l ++ l')) (hlen : n + m ≤ 1099511627776) (hbase : base ≤ w.heap.size)
    (h : ∀ A' c' w', Own w' base 5 1 (.slice A' L.length c') L.length (bv L) → w.grownBy w' v.ownBlock → (∀ g, (Value.slice A' L.length c').ownBlock = some g → v.ownBlock = some g ∨ w.heap.size ≤ g) → K (a.put o.dst (.slice A' L.length c')) w') : o.wp Try.prog a w K Q := by
  obtain ⟨i0, hi, hz0, hz1, hz2⟩ := info_parts u8_info
  refine wp_app w s x 28 ho base 5 i0 (.int .u8 0) 1 1 Try.underlying28 hi hz0 hz1 hz2 rfl (by decide) v n (bv l) hs hown B A m c (bv l') hx hr (bv_one _) (by unfold maxLen; omega) (by omega) hbase fun v' w' h1 h2 h3 => ?_
  rw [← bv_app, ← hL.out] at h1
  have e : n + m = L.length := by have := h1.1; rw [bv_len] at this; omega
  rw [e] at h1
  obtain ⟨A', c', rfl, _⟩ := h1.shape
  exact h A' c' w' h1 h2 h3
theorem wpList_appb {ops : Array Oper} {rest : List Oper} {o : Oper} {a : Act} {Q : Exit → Act → World → Prop} (w : World) (hgd : o.guard = none) (s x : Operand)
    (ho : o.op = .call { callee := .builtin .append, args := #[s, x], argTypes := #[28, 28] })
    (base : Nat) (v : Value) (n : Nat) (l : List UInt8) (hs : a.eval s = v) (hown : Own w base 5 1 v n (bv l))
    (B : Nat) (A : Option Addr) (m c : Nat) (l' : List UInt8) (hx : a.eval x = .slice A m c) (hr : Rd w B 1 A m (bv l'))
    (L : List UInt8) (hL : Hid (L = l ++ l')) (hlen : n + m ≤ 1099511627776) (hbase : base ≤ w.heap.size)
    (h : ∀ A' c' w', Own w' base 5 1 (.slice A' L.length c') L.length (bv L) → w.grownBy w' v.ownBlock → (∀ g, (Value.slice A' L.length c').ownBlock = some g → v.ownBlock = some g ∨ w.heap.size ≤ g) → wpList Try.prog ops Q rest (a.put o.dst (.slice A' L.length c')) w') : wpList Try.prog ops Q (o :: rest) a w :=
  wpList_plain hgd fun _ hK => wp_appb w s x ho base v n l hs hown B A m c l' hx hr L hL hlen hbase fun A' c' w' h1 h2 h3 => hK _ _ (h A' c' w' h1 h2 h3)

set_option maxRecDepth 100000 in
set_option maxHeartbeats 400000 in
theorem pad_any (A : Option Addr) (c base : Nat) (l : List UInt8) (w : World) (hl : l.length ≤ 1000000) (hb : base ≤ w.heap.size) (hown : Own w base 5 1 (.slice A l.length c) l.length (bv l)) :
    Calls Try.prog 29 #[.slice A l.length c] w (RetOwn base [5] (pad4 l) w) := by
  go_enter Try.func29, Try.ntmps29
  go_wp2
  go_loopw [0] (fun v wr => ∃ (A' : Option Addr) (c' : Nat) (l' : List UInt8), v = .slice A' l'.length c' ∧ Own wr base 5 1 (.slice A' l'.length c') l'.length (bv l') ∧ Hid (pad4 l' = pad4 l) ∧ l'.length ≤ 1000008 ∧ Fr base [5] w wr) (fun v _ => (4 - lenV v % 4) % 4)
  case atStart => exact ⟨A, c, l, rfl, hown, rfl, by omega, Fr.refl _ _ _⟩
  case round =>
    obtain ⟨A', c', l', rfl, hown', hpad, hlen, hfr⟩ := hrel
    have hsz := hfr.size
    by_cases h4 : l'.length % 4 = 0
    · have h4' : ((l'.length : Int) % 4 != 0) = false := by simp; omega
      have HP := pad4_done l' h4
      clear h4
      go_wp2
      go_ret
      have e : l' = pad4 l := by rw [← hpad.out, HP]
      exact ⟨A', c', by rw [← e]; rfl, by rw [← e]; exact hown', hfr⟩
    · have h4' : ((l'.length : Int) % 4 != 0) = true := by simp; omega
      have HP := Lib.hid (pad4_step l' h4)
      have hnew : Rd (wr.alloc (.cells #[.int .u8 0] 5)) (wr.heap.size + 1) 1 (some ⟨wr.heap.size, 0, none⟩) 1 (bv [0]) := new_rd wr _ _
      obtain ⟨L, hL⟩ : ∃ L, L = l' ++ [0] := ⟨_, rfl⟩
      have HL := Lib.hid hL; clear hL
      go_wp2_with (at_builtin; refine wpList_appb _ rfl (.tmp 7) (.tmp 8) rfl base (.slice A' l'.length c') _ l' rfl (hown'.alloc _) (wr.heap.size + 1) _ 1 1 [0] rfl hnew L HL (by omega) (by simp; omega) ?_; intro A1 c1 w1 hown1 hg1 hat1)
      have eL : L.length = l'.length + 1 := by rw [HL.out]; simp
      have hR := own_row (hown'.alloc (.cells #[.int .u8 0] 5)) (S := [5]) (by simp)
      refine ⟨⟨A1, c1, L, rfl, hown1, (show _ = _ by rw [HL.out, ← HP.out, hpad.out]), ?_, (hfr.alloc _).grown hg1 hR⟩, ?_⟩
      · have : l'.length < 1000008 ∨ l'.length % 4 = 0 := by omega
        omega
      · simp only [lenV, eL]
        omega
end Go.Proofs.Ytcecfjblgakfeaa
