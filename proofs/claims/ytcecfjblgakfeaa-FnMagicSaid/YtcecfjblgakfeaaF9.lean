/- The writer of one record, WriteRecord, walked whole. -/
import Derived.Test.YtcecfjblgakfeaaF8
namespace Go.Proofs.Ytcecfjblgakfeaa
open Go.RowKit
theorem pad4_app (l m : List UInt8) (h : l.length % 4 = 0) : pad4 (l ++ m) = l ++ pad4 m := by
  unfold pad4 fill
  rw [List.append_assoc, List.length_append]
  congr 3
  omega
theorem Own.rd {w : World} {base e size n c : Nat} {A : Option Addr} {xs : List Value} (h : Own w base e size (.slice A n c) n xs) : Rd w w.heap.size size A n xs := by
  obtain ⟨A', c', e, _, _, hr⟩ := h.shape
  injection e with e1
  rw [e1]
  exact hr
theorem Own.cap {w : World} {base e size n c : Nat} {A : Option Addr} {xs : List Value} (h : Own w base e size (.slice A n c) n xs) : n ≤ c := by
  obtain ⟨A', c', e, h1, _, hr⟩ := h.shape
  injection e with e1 e2 e3
  omega
theorem ta4 (a : Addr) (w : World) : (Instr.typeAssert (.iface 71 (.pointer (some a))) 50 172 true).run Try.prog w = .ok (.tuple #[.nilIface, .bool false]) w := run_typeAssert_lacksB Try.underlying172 (by kernel_rfl) (by kernel_rfl) _ _ w
theorem Wst.mag {w : World} {base gW gB : Nat} {l : List UInt8} (h : Wst w base gW gB l) : w.cell? ⟨gW, 0, none⟩ = some (.string ⟨magic.toArray⟩) := by rw [h.1.cell]; rfl
theorem Held.old {w w' : World} {base : Nat} {r : Rec} {g : Nat} (h : Held w base r g) (hb : Below w.heap.size w w') (hB : base ≤ w.heap.size) : Held w' base r g := by
  obtain ⟨A, c, h1, h2, h3⟩ := h
  exact ⟨A, c, h1.old hb, h2.below (hb.mono hB), h3⟩
theorem Held.fr {w w' : World} {base : Nat} {S : List TypeId} {r : Rec} {g : Nat} (h : Held w base r g) (hf : Fr base S w w') (hS : 73 ∉ S) (hB : base ≤ w.heap.size) : Held w' base r g := by
  obtain ⟨A, c, h1, h2, h3⟩ := h
  exact ⟨A, c, hf.blk h1 (.inr hS), h2.below (hf.below hB), h3⟩
set_option maxRecDepth 100000 in
set_option maxHeartbeats 1000000 in
theorem record_any (r : Rec) (hs : r.Small) (g base gW gB : Nat) (l L : List UInt8) (hL : Hid (L = l ++ r.enc)) (h4 : Hid (l.length % 4 = 0)) (hll : l.length ≤ 1000000) (w : World) (hw : Wst w base gW gB l) (hh : Held w base r g) :
    Calls Try.prog 90 #[.pointer (some ⟨gW, 0, none⟩), .agg (cRecCells r g)] w (WroteE base gW gB [5, 75, 147] L w) := by
  have hbl := hw.lt
  have hwl := hw.1.lt
  -- the lists
  obtain ⟨L1, hL1⟩ : ∃ L1, L1 = l ++ magic := ⟨_, rfl⟩
  have e1 : L1.length ≤ 1000006 := by rw [hL1, List.length_append]; simp [magic]; omega
  have H1 := Lib.hid hL1
  clear hL1
  -- the box, and the magic number as bytes
  have hwa := hw.alloc (.cells (cRecCells r g) 54)
  have hbox : Blk (w.alloc (.cells (cRecCells r g) 54)) w.heap.size 54 (cRecCells r g) := Blk.new _ _ _
  have hmag := hw.mag
  obtain ⟨A1, c1, w1, hcv, ho1, hb1, hl1⟩ := conv_ex (w.alloc (.cells (cRecCells r g) 54)) ⟨magic.toArray⟩ magic rfl (by simp [magic])
  go_enter Try.func90, Try.ntmps90
  go_wp2_with fail
  refine (write_any base gW gB w1.heap.size magic.length c1 A1 l magic L1 w1 H1 rfl (by simp [magic]; omega) (hwa.old hb1) ho1.rd).mono ?_
  rintro e w2 ⟨rfl, hw2, hf2⟩
  have hfr2 : Fr base [5, 75, 147] (w.alloc (.cells (cRecCells r g) 54)) w2 := (Fr.of_below hb1).trans hf2
  have hbox2 := hfr2.blk hbox (.inr (by decide))
  have hbc := hbox2.cell
  have hz2 : w.heap.size < w2.heap.size := hbox2.lt
  go_wp2_with fail
  refine (header_any r hs _).mono ?_
  rintro e w3 ⟨rfl, hb3⟩
  have hbox3 := hbox2.old hb3
  have hbc3 := hbox3.cell
  have hz3 : w.heap.size < w3.heap.size := hbox3.lt
  have hw3 := hw2.old hb3
  clear hbc
  go_wp2_with fail
  refine (bytes_any r hs _).mono ?_
  rintro e w4 ⟨A2, c2, rfl, ho2, hf4⟩
  have hux := uhex_any (bes r.nums) (by rw [bes_len]; simp [Rec.nums]) w4.heap.size A2 c2 w4 (Nat.le_refl _) ho2.rd
  rw [uhex_bes r.nums (nums_small r hs)] at hux
  clear hbc3
  go_wp2_with fail
  refine hux.mono ?_
  rintro e w5 ⟨A3, c3, rfl, ho3, hf5⟩
  have hxl : (hexes r.nums).length = 104 := by rw [hexes_len]; rfl
  have hcap3 := ho3.cap
  obtain ⟨b3, off3, rfl, _, _⟩ := ho3.rd.2 (by omega)
  rw [hxl] at hcap3
  have hb5 : Below (w3.alloc (.cells (hdrCells r) 156)).heap.size (w3.alloc (.cells (hdrCells r) 156)) w5 :=
    (hf4.below (Nat.le_refl _)).trans ((hf5.below (Nat.le_refl _)).mono (hf4.size))
  have hw5 := (hw3.alloc (.cells (hdrCells r) 156)).old hb5
  have hbox5 := (hbox3.alloc (.cells (hdrCells r) 156)).old hb5
  have hfr5 : Fr base [5, 75, 147] (w.alloc (.cells (cRecCells r g) 54)) w5 := ((hfr2.trans (Fr.of_below hb3)).alloc _).trans (Fr.of_below hb5)
  obtain ⟨L2, hL2⟩ : ∃ L2, L2 = L1 ++ hexes r.nums := ⟨_, rfl⟩
  have e2 : L2.length ≤ 1000110 := by rw [hL2, List.length_append]; omega
  have H2 := Lib.hid hL2
  clear hL2
  go_wp2_with fail
  refine (write_any base gW gB w5.heap.size 104 c3 _ L1 (hexes r.nums) L2 w5 H2 hxl (by omega) hw5 (by rw [← hxl]; exact ho3.rd)).mono ?_
  rintro e w6 ⟨rfl, hw6, hf6⟩
  have hfr6 := hfr5.trans hf6
  have hbox6 := hf6.blk hbox5 (.inr (by decide))
  have hbc6 := hbox6.cell
  have hz6 : w.heap.size < w6.heap.size := hbox6.lt
  have hnl := hs.name
  obtain ⟨A7, c7, w7, hcv7, ho7, hb7, hl7⟩ := conv_ex w6 ⟨r.name.toArray⟩ r.name rfl (by omega)
  obtain ⟨N, hN⟩ : ∃ N, N = r.name ++ [0] := ⟨_, rfl⟩
  have eN : N.length ≤ 101 := by rw [hN, List.length_append, List.length_singleton]; omega
  have HN := Lib.hid hN
  clear hN
  have hnew : Rd (w7.alloc (.cells #[.int .u8 0] 5)) (w7.heap.size + 1) 1 (some ⟨w7.heap.size, 0, none⟩) 1 (bv [0]) := new_rd w7 _ _
  go_wp2_with (at_builtin; refine wpList_appb _ rfl (.tmp 64) (.tmp 65) rfl w6.heap.size (.slice A7 r.name.length c7) _ r.name rfl (ho7.alloc _) (w7.heap.size + 1) _ 1 1 [0] rfl hnew N HN (by omega) (by simp; omega) ?_; intro A8 c8 w8 ho8 hg8 hat8)
  have hb8 : Below w6.heap.size w6 w8 := (hb7.alloc hb7.size _).grown hg8 (by simp; omega) (fun k hk => (ho7.lt k hk).1)
  have hw8 := hw6.old hb8
  have hbox8 := hbox6.old hb8
  obtain ⟨L3, hL3⟩ : ∃ L3, L3 = L2 ++ N := ⟨_, rfl⟩
  have e3 : L3.length ≤ 1000300 := by rw [hL3, List.length_append]; omega
  have H3 := Lib.hid hL3
  clear hL3
  clear hbc6
  refine (write_any base gW gB w8.heap.size N.length c8 _ L2 N L3 w8 H3 rfl (by omega) hw8 ho8.rd).mono ?_
  rintro e w9 ⟨rfl, hw9, hf9⟩
  have hfr9 := (hfr6.trans (Fr.of_below hb8)).trans hf9
  have hbox9 := hf9.blk hbox8 (.inr (by decide))
  go_wp2_with fail
  refine (pad_w base gW gB L3 w9 (by omega) hw9).mono ?_
  rintro e w10 ⟨rfl, hw10, hf10⟩
  have hfr10 := hfr9.trans hf10
  have hbox10 := hf10.blk hbox9 (.inr (by decide))
  have hbc10 := hbox10.cell
  have hz10 : w.heap.size < w10.heap.size := hbox10.lt
  go_wp2_with fail
  refine (reader_all 54 (.agg (cRecCells r g)) w10).mono ?_
  rintro e w11 ⟨rfl, rfl⟩
  obtain ⟨L4, hL4⟩ : ∃ L4, L4 = pad4 L3 := ⟨_, rfl⟩
  obtain ⟨L5, hL5⟩ : ∃ L5, L5 = L4 ++ r.data := ⟨_, rfl⟩
  have hdl := hs.data
  have e4 : L4.length ≤ 1000310 := by rw [hL4, pad4_len]; omega
  have e5 : L5.length ≤ 1000700 := by rw [hL5, List.length_append]; omega
  rw [← hL4] at hw10
  have H4 := Lib.hid hL4
  have H5 := Lib.hid hL5
  clear hL4 hL5
  have hfrw : Fr base [5, 75, 147] w w10 := ((Fr.refl _ _ _).alloc _).trans hfr10
  have hheld : Held w10 base r g := hh.fr hfrw (by decide) (Nat.le_of_lt hbl)
  clear hbc10
  go_wp2_with fail
  refine (copy_any r w10.heap.size g base base gW gB L4 L5 H5 (by omega) w10 _ hw10 (Nat.le_refl _) ((Below.refl _ _).alloc (Nat.le_refl _) _) (Blk.new _ _ _) (hheld.old ((Below.refl _ _).alloc (Nat.le_refl _) _) (by omega)) hdl (by simp; omega)).mono ?_
  rintro e w12 ⟨rfl, hw12, hf12⟩
  have hbox12 := hf12.blk hbox10 (.inr (by decide))
  have hbc12 := hbox12.cell
  have hta := fun W => ta4 ⟨g, 0, none⟩ W
  have hfr12 := hfrw.trans hf12
  have hlen5 : L5.length = L4.length + r.data.length := by rw [H5.out, List.length_append]
  have hfin : L = pad4 L5 := by
    have h4' := h4.out
    rw [hL.out, Rec.enc, ← pad4_app _ _ h4', ← List.append_assoc, Rec.front, ← pad4_app _ _ h4', H5.out, H4.out, H3.out, H2.out, H1.out, HN.out, Rec.head]
    simp only [List.append_assoc]
  by_cases hz : r.data.length = 0
  · have hn : r.data = [] := List.eq_nil_of_length_eq_zero hz
    have hL5 : L5 = L := by
      rw [hfin, pad4_done]
      rw [H5.out, hn, List.append_nil, H4.out]
      exact pad4_mod _
    have HZ := Lib.hid hz
    have hz0 : ¬ (0 : Int) < (r.data.length : Int) := by omega
    clear hz hn hlen5 hfin
    go_wp2
    go_ret
    exact ⟨rfl, hL5 ▸ hw12, hfr12⟩
  · have hz0 : (0 : Int) < (r.data.length : Int) := by omega
    clear hz
    go_wp2_with (go_at_call 91; refine (pad_w base gW gB L5 w12 (by omega) hw12).mono ?_; rintro e w13 ⟨rfl, hw13, hf13⟩)
    go_ret
    exact ⟨rfl, by rw [hfin]; exact hw13, hfr12.trans hf13⟩
end Go.Proofs.Ytcecfjblgakfeaa
