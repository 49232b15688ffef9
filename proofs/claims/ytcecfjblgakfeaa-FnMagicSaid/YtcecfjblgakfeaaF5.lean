/- Bytes in memory that are read at a place. -/

import Derived.Test.YtcecfjblgakfeaaF4
namespace Go.Proofs.Ytcecfjblgakfeaa
open Go.RowKit
abbrev EOFV : Value := .iface 100 (.string ⟨#[69, 79, 70]⟩)
theorem u8_size : (Try.prog.info? 5).map (·.size) = some 1 := by
  obtain ⟨i0, hi, _, hz1, _⟩ := info_parts u8_info
  simp [hi, hz1]
/-- copy of bytes onto the head of a row that is known whole. -/
theorem wpList_copyb {ops : Array Oper} {rest : List Oper} {o : Oper} {a : Act} {Q : Exit → Act → World → Prop} (w : World) (hgd : o.guard = none) (d s : Operand)
    (ho : o.op = .call { callee := .builtin .copy, args := #[d, s], argTypes := #[28, 28] })
    (g dLen dCap : Nat) (hd : a.eval d = .slice (some ⟨g, 0, none⟩) dLen dCap) (b off sLen sCap : Nat) (hs : a.eval s = .slice (some ⟨b, off, none⟩) sLen sCap)
    (cur : List Value) (hg : Blk w g 5 cur.toArray) (src : List UInt8) (hn : src.length = Nat.min sLen dLen) (B : Nat) (hr : Rd w B 1 (some ⟨b, off, none⟩) src.length (bv src)) (hfit : src.length ≤ cur.length)
    (h : ∀ w', Blk w' g 5 (splice cur 0 (bv src)).toArray → w.grownBy w' (some g) → wpList Try.prog ops Q rest (a.put o.dst (.int .i64 src.length)) w') : wpList Try.prog ops Q (o :: rest) a w := by
  by_cases h0 : src.length = 0
  · obtain rfl : src = [] := List.eq_nil_of_length_eq_zero h0
    refine wpList_copy_nothing hgd d s 28 28 ho 5 Try.underlying28 u8_size _ _ dLen dCap sLen sCap hd hs (by simpa using hn.symm) ?_
    exact h w (by simpa [splice, bv] using hg) ⟨rfl, rfl, rfl, Nat.le_refl _, fun _ _ _ => rfl⟩
  · obtain ⟨b', off', e, _, hc⟩ := hr.2 (by omega)
    injection e with e
    injection e with e1 e2
    subst e1 e2
    refine wpList_copy_own hgd d s 28 28 ho 5 Try.underlying28 u8_size g 0 dLen dCap ⟨b, off, none⟩ sLen sCap hd hs cur.toArray 5 hg (bv src) (by rw [bv_len]; exact hn) (fun j v hj => by rw [add_lit]; exact hc j v hj) (by rw [bv_len]; simpa using hfit) (bv_one _) ?_
    rw [bv_len]
    refine h _ ?_ ⟨rfl, rfl, rfl, by simp, fun k _ hk => setRow_other w g k _ (fun e => hk (by rw [e]))⟩
    have := setRow_heap w g cur.toArray (cur.toArray.toList.take 0 ++ (bv src ++ cur.toArray.toList.drop (0 + src.length))).toArray 5 (0, 0) hg
    unfold Blk
    rw [this]
    simp [splice, bv_len]
#print axioms wpList_copyb
set_option maxRecDepth 100000 in
set_option maxHeartbeats 400000 in
theorem readat_eof (g n c o : Nat) (A : Option Addr) (P : Value) (w : World) (hb : Blk w g 73 #[.slice A n c, .int .i64 0]) (ho : n ≤ o) :
    Calls Try.prog 67 #[.pointer (some ⟨g, 0, none⟩), P, .int .i64 o] w fun e w' => e = .returned (.tuple #[.int .i64 0, EOFV]) ∧ w = w' := by
  have hc : w.cell? ⟨g, 0, none⟩ = some (.slice A n c) := by rw [hb.cell]; rfl
  go_enter Try.func67, Try.ntmps67
  go_wp2
  go_ret2
  exact ⟨rfl, rfl⟩
set_option maxRecDepth 100000 in
set_option maxHeartbeats 400000 in
theorem readat_full (g B b off n c gp m cp o : Nat) (d : List UInt8) (cur : List Value) (w : World) (hb : Blk w g 73 #[.slice (some ⟨b, off, none⟩) n c, .int .i64 0])
    (hr : Rd w B 1 (some ⟨b, off, none⟩) n (bv d)) (hnc : n ≤ c) (ho : o < n) (hm : m ≤ n - o) (hm0 : 0 < m) (hp : Blk w gp 5 cur.toArray) (hcur : m ≤ cur.length) :
    Calls Try.prog 67 #[.pointer (some ⟨g, 0, none⟩), .slice (some ⟨gp, 0, none⟩) m cp, .int .i64 o] w fun e w' => e = .returned (.tuple #[.int .i64 m, .nilIface]) ∧ Blk w' gp 5 (splice cur 0 (bv ((d.drop o).take m))).toArray ∧ w.grownBy w' (some gp) := by
  have hc : w.cell? ⟨g, 0, none⟩ = some (.slice (some ⟨b, off, none⟩) n c) := by rw [hb.cell]; rfl
  have hdl : d.length = n := by have := hr.1; rw [bv_len] at this; omega
  obtain ⟨src, hsrc⟩ : ∃ src, src = (d.drop o).take m := ⟨_, rfl⟩
  have hsl : src.length = m := by rw [hsrc, List.length_take, List.length_drop]; omega
  have hrs : Rd w B 1 (some ⟨b, off + o, none⟩) src.length (bv src) := by
    have := hr.cut (k := o) (h := o + m) (cap := c) (by omega) (by omega) hnc
    rw [if_neg (by omega)] at this
    rw [hsl, hsrc]
    simpa [add_lit, bv_drop, bv_take] using this
  rw [← hsrc]
  have hge : m ≤ src.length := by omega
  have HSL := Lib.hid hsl
  clear hsrc hsl hdl
  go_enter Try.func67, Try.ntmps67
  go_wp2_with (refine wpList_copyb _ rfl (.tmp 20) (.tmp 26) rfl gp m cp rfl b (off + o) (n - o) (c - o) rfl cur hp src (by rw [HSL.out]; show m = min (n - o) m; omega) B hrs (by rw [HSL.out]; exact hcur) ?_; intro w1 hw1 hg1)
  go_ret2
  exact ⟨by rw [← HSL.out]; rfl, hw1, hg1⟩
set_option maxRecDepth 100000 in
set_option maxHeartbeats 400000 in
theorem readat_short (g B b off n c gp m cp o : Nat) (d : List UInt8) (cur : List Value) (w : World) (hb : Blk w g 73 #[.slice (some ⟨b, off, none⟩) n c, .int .i64 0])
    (hr : Rd w B 1 (some ⟨b, off, none⟩) n (bv d)) (hnc : n ≤ c) (ho : o < n) (hm : n - o < m) (hp : Blk w gp 5 cur.toArray) (hcur : n - o ≤ cur.length) :
    Calls Try.prog 67 #[.pointer (some ⟨g, 0, none⟩), .slice (some ⟨gp, 0, none⟩) m cp, .int .i64 o] w fun e w' => e = .returned (.tuple #[.int .i64 (n - o : Nat), EOFV]) ∧ Blk w' gp 5 (splice cur 0 (bv (d.drop o))).toArray ∧ w.grownBy w' (some gp) := by
  have hc : w.cell? ⟨g, 0, none⟩ = some (.slice (some ⟨b, off, none⟩) n c) := by rw [hb.cell]; rfl
  have hdl : d.length = n := by have := hr.1; rw [bv_len] at this; omega
  obtain ⟨src, hsrc⟩ : ∃ src, src = d.drop o := ⟨_, rfl⟩
  have hsl : src.length = n - o := by rw [hsrc, List.length_drop]; omega
  have hrs : Rd w B 1 (some ⟨b, off + o, none⟩) src.length (bv src) := by
    have := hr.cut (k := o) (h := n) (cap := c) (by omega) (by omega) hnc
    rw [if_neg (by omega)] at this
    rw [hsl, hsrc]
    have e : List.take (n - o) (bv (d.drop o)) = bv (d.drop o) := List.take_of_length_le (by rw [bv_len, List.length_drop]; omega)
    simpa [add_lit, bv_drop, e] using this
  rw [← hsrc]
  have hge : src.length < m := by omega
  have HSL := Lib.hid hsl
  clear hsrc hsl hdl
  go_enter Try.func67, Try.ntmps67
  go_wp2_with (refine wpList_copyb _ rfl (.tmp 20) (.tmp 26) rfl gp m cp rfl b (off + o) (n - o) (c - o) rfl cur hp src (by rw [HSL.out]; show n - o = min (n - o) m; omega) B hrs (by rw [HSL.out]; exact hcur) ?_; intro w1 hw1 hg1)
  go_ret2
  exact ⟨by rw [← HSL.out]; rfl, hw1, hg1⟩
end Go.Proofs.Ytcecfjblgakfeaa
