/- The header as bytes, and bytes as hexadecimal digits. -/

import Derived.Test.YtcecfjblgakfeaaF3
import Derived.Deep.RegionHeld3
namespace Go.Proofs.Ytcecfjblgakfeaa
open Go.RowKit
theorem nums_small (r : Rec) (h : r.Small) : ∀ n ∈ r.nums, n < 4294967296 := by
  obtain ⟨h1, h2, h3, h4, h5, h6, h7, h8, h9, h10, h11, h12⟩ := h
  intro n hn
  simp only [Rec.nums, List.mem_cons, List.not_mem_nil, or_false] at hn
  rcases hn with rfl | rfl | rfl | rfl | rfl | rfl | rfl | rfl | rfl | rfl | rfl | rfl | rfl <;> omega
set_option maxRecDepth 100000 in
set_option maxHeartbeats 400000 in
theorem bytes_any (r : Rec) (h : r.Small) (w : World) :
    Calls Try.prog 93 #[.agg (hdrCells r)] w (RetOwn w.heap.size [5] (bes r.nums) w) := by
  have hx := nums_small r h
  have hR : Rd ((w.alloc (.cells (hdrCells r) 156)).alloc (.cells (hdrCells r) 126)) (w.heap.size + 2) 1 (some ⟨w.heap.size + 1, 0, none⟩) 13 (r.nums.map fun (n : Nat) => Value.int .u32 (n : Int)) := by
    have := new_rd (w.alloc (.cells (hdrCells r) 156)) (r.nums.map fun (n : Nat) => Value.int .u32 (n : Int)) 126
    simpa [Rec.nums] using this
  go_enter Try.func93, Try.ntmps93
  go_wp2_with fail
  refine (be_any r.nums hx (by simp [Rec.nums]) (w.heap.size + 2) _ 13 _ (by simp) hR).mono ?_
  rintro e w1 ⟨A1, c1, rfl, hown, hfr⟩
  go_wp2
  go_ret
  have hfr0 : Fr w.heap.size [5] w w1 := (Fr.of_below (((Below.refl _ _).alloc (Nat.le_refl _) _).alloc (by simp) _)).trans (hfr.more (by simp; omega) (by simp))
  exact ⟨A1, c1, rfl, hown.more (by simp; omega), hfr0⟩
/-- append of bytes as one step of a region that draws its order. -/
theorem step_appb {ops : Array Oper} {o : Oper} {a : Act} {K : Act → World → Prop} {Q : Exit → Act → World → Prop} {E : Prop} (w : World) (hgd : o.guard = none) (s x : Operand)
    (ho : o.op = .call { callee := .builtin .append, args := #[s, x], argTypes := #[28, 28] })
    (base : Nat) (v : Value) (n : Nat) (l : List UInt8) (hs : a.eval s = v) (hown : Own w base 5 1 v n (bv l))
    (B : Nat) (A : Option Addr) (m c : Nat) (l' : List UInt8) (hx : a.eval x = .slice A m c) (hr : Rd w B 1 A m (bv l'))
    (L : List UInt8) (hL : Hid (L = l ++ l')) (hlen : n + m ≤ 1099511627776) (hbase : base ≤ w.heap.size)
    (h : ∀ A' c' w', Own w' base 5 1 (.slice A' L.length c') L.length (bv L) → w.grownBy w' v.ownBlock → (∀ g, (Value.slice A' L.length c').ownBlock = some g → v.ownBlock = some g ∨ w.heap.size ≤ g) → K (a.put o.dst (.slice A' L.length c')) w') :
    if Region.wanted o (yielded ops a.tmps) = true then Oper.wp Try.prog o a w K Q else E := by
  have hw : Region.wanted o (yielded ops a.tmps) = true := by simp [Region.wanted, hgd]
  rw [if_pos hw]
  exact wp_appb w s x ho base v n l hs hown B A m c l' hx hr L hL hlen hbase h
theorem and15b (m : Nat) (h : m < 256) : bits .and .u8 (m : Int) 15 = ((m % 16 : Nat) : Int) := by
  have := u8_and_nat m 15 h (by omega)
  rw [show ((15 : Nat) : Int) = 15 from rfl] at this
  rw [this, show (15 : Nat) = 2 ^ 4 - 1 from rfl, Nat.and_two_pow_sub_one_eq_mod]
/-- Bytes as hexadecimal digits. -/
def uhex (l : List UInt8) : List UInt8 := l.flatMap fun c => [dig (c.toNat / 16), dig (c.toNat % 16)]
theorem uhex_len (l : List UInt8) : (uhex l).length = 2 * l.length := by
  induction l with
  | nil => rfl
  | cons a l ih => simp only [uhex, List.flatMap_cons, List.length_append] at ih ⊢; rw [ih]; simp; omega
theorem uhex_snoc (l : List UInt8) (c : UInt8) : uhex (l ++ [c]) = uhex l ++ [dig (c.toNat / 16), dig (c.toNat % 16)] := by simp [uhex]
set_option maxRecDepth 100000 in
set_option maxHeartbeats 400000 in
theorem uhex_any (l : List UInt8) (hl : l.length ≤ 100) (B : Nat) (A : Option Addr) (c : Nat) (w : World) (hB : B ≤ w.heap.size) (hr : Rd w B 1 A l.length (bv l)) :
    Calls Try.prog 94 #[.slice A l.length c] w (RetOwn w.heap.size [5] (uhex l) w) := by
  go_enter Try.func94, Try.ntmps94
  go_wp2
  go_loopw [3, 8] (fun v i wr => ∃ (k : Nat) (A' : Option Addr) (c' : Nat) (m : List UInt8), k ≤ l.length ∧ i = .int .i64 k ∧ v = .slice A' m.length c' ∧ Own wr w.heap.size 5 1 (.slice A' m.length c') m.length (bv m) ∧ Hid (m = uhex (l.take k)) ∧ Fr w.heap.size [5] w wr) (fun _ i _ => l.length - (intOf i).toNat)
  case atStart => exact ⟨0, none, 0, [], by omega, rfl, rfl, Own.nil_ _ _ _ _, rfl, Fr.refl _ _ _⟩
  case round =>
    obtain ⟨k, A', c', m, hk, rfl, rfl, hown, hl', hfr⟩ := hrel
    have hsz := hfr.size
    by_cases hlt : k < l.length
    · have hr1 := hr.below ((hfr.below (Nat.le_refl _)).mono hB)
      obtain ⟨b, off, rfl, hbB, hc⟩ := hr1.at1 hlt
      rw [bv_at l k hlt] at hc
      obtain ⟨x, hx⟩ : ∃ x, x = l[k] := ⟨_, rfl⟩
      rw [← hx] at hc
      have hb := x.toNat_lt
      obtain ⟨n, hn⟩ : ∃ n, n = x.toNat := ⟨_, rfl⟩
      rw [← hn] at hc hb
      have HN := Lib.hid hn
      have HX := Lib.hid hx
      clear hn hx
      have hand := and15b n hb
      have hq1 : (0 : Int) ≤ (n : Int) / 16 ∧ (n : Int) / 16 < 16 := by omega
      have hq2 : (0 : Int) ≤ (n : Int) % 16 ∧ (n : Int) % 16 < 16 := by omega
      have ht1 : ((n : Int) / 16).toNat = n / 16 := by omega
      have ht2 : ((n : Int) % 16).toNat = n % 16 := by omega
      obtain ⟨L, hL⟩ : ∃ L, L = m ++ [dig (n / 16), dig (n % 16)] := ⟨_, rfl⟩
      have hLl : L.length = m.length + 2 := by rw [hL]; simp
      have hml : m.length ≤ 200 := by rw [hl'.out, uhex_len, List.length_take]; omega
      have HLL := Lib.hid hLl
      have HL := Lib.hid hL
      clear hL hLl
      go_wp2
      go_region_held3 (fun _ => True) (trivial) (first
        | (refine step_appb _ rfl (.tmp 12) (.tmp 19) rfl w.heap.size (.slice A' m.length c') _ m rfl ((hown.alloc _).drew) (wr.heap.size + 1) _ 2 2 [dig (n / 16), dig (n % 16)] rfl (by rw [dig_lit (n / 16) (by omega), dig_lit (n % 16) (by omega)]; exact (new_rd wr (bv [dig (n / 16), dig (n % 16)]) 5).drew) L HL (by omega) (by simp; omega) ?_; intro A1 c1 w1 hown1 hg1 hat1))
      all_goals
        go_wp2
        refine ⟨⟨k + 1, A1, c1, L, by omega, by go_num, rfl, hown1, (show _ = _ from ?_), (hfr.trans ((Fr.refl _ _ _).alloc _)).drew.grown hg1 (own_row (S := [5]) ((hown.alloc _).drew) (by simp))⟩, by simp [intOf]; omega⟩
        rw [HL.out, hl'.out, List.take_add_one, List.getElem?_eq_getElem hlt, Option.toList_some, uhex_snoc, HN.out, HX.out]
    · have hk1 : k = l.length := by omega
      subst hk1
      have e : m = uhex l := by rw [hl'.out, List.take_length]
      subst e
      go_wp2
      go_ret
      exact ⟨A', c', rfl, hown, hfr⟩
theorem uhex_be (n : Nat) (h : n < 4294967296) : uhex (be n) = low 8 n := by
  have e (m : Nat) : (UInt8.ofNat m).toNat = m % 256 := by simp
  simp only [uhex, be, low, List.flatMap_cons, List.flatMap_nil, List.append_nil, List.cons_append, List.nil_append, e, List.cons.injEq, and_true]
  refine ⟨?_, ?_, ?_, ?_, ?_, ?_, ?_, ?_⟩ <;> congr 1 <;> simp only [Nat.reducePow] <;> omega
theorem uhex_bes (xs : List Nat) (h : ∀ n ∈ xs, n < 4294967296) : uhex (bes xs) = hexes xs := by
  induction xs with
  | nil => rfl
  | cons a l ih =>
    have h1 : uhex (bes (a :: l)) = uhex (be a) ++ uhex (bes l) := by simp [uhex, bes]
    rw [h1, ih fun n hn => h n (List.mem_cons_of_mem _ hn), uhex_be a (h a (List.mem_cons_self ..))]
    rfl
end Go.Proofs.Ytcecfjblgakfeaa
