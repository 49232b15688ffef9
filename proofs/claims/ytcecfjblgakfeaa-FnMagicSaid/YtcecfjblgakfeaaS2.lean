/- The reference's Written: the bytes of a record. -/
import Derived.Test.YtcecfjblgakfeaaS1
namespace Go.Proofs.Ytcecfjblgakfeaa
open Go.RowKit
/-- A record as a value: ten numbers, the name, the data's slice. -/
abbrev RecV (r : Rec) (A : Option Addr) (c : Nat) : Value :=
  .agg #[.int .u64 r.ino, .int .u64 r.mode, .int .u64 r.uid, .int .u64 r.gid, .int .u64 r.nlink, .int .u64 r.mtime, .int .u64 r.major, .int .u64 r.minor, .int .u64 r.rmajor, .int .u64 r.rminor, .string ⟨r.name.toArray⟩, .slice A r.data.length c]
abbrev recCells (r : Rec) (A : Option Addr) (c : Nat) : Array Value :=
  #[.int .u64 r.ino, .int .u64 r.mode, .int .u64 r.uid, .int .u64 r.gid, .int .u64 r.nlink, .int .u64 r.mtime, .int .u64 r.major, .int .u64 r.minor, .int .u64 r.rmajor, .int .u64 r.rminor, .string ⟨r.name.toArray⟩, .slice A r.data.length c]
/-- The numbers of a record fit 64 bits, its name and data are short. -/
structure Rec.Fit (r : Rec) : Prop where
  ino : r.ino < 18446744073709551616
  mode : r.mode < 18446744073709551616
  uid : r.uid < 18446744073709551616
  gid : r.gid < 18446744073709551616
  nlink : r.nlink < 18446744073709551616
  mtime : r.mtime < 18446744073709551616
  major : r.major < 18446744073709551616
  minor : r.minor < 18446744073709551616
  rmajor : r.rmajor < 18446744073709551616
  rminor : r.rminor < 18446744073709551616
  name : r.name.length ≤ 100000
  data : r.data.length ≤ 100000
def numsV (r : Rec) : List Value := r.nums.map fun (n : Nat) => Value.int .u64 (n : Int)
theorem numsV_len (r : Rec) : (numsV r).length = 13 := rfl
theorem numsV_at (r : Rec) (k : Nat) (h : k < 13) : ∃ n, r.nums[k]? = some n ∧ (numsV r)[k]? = some (.int .u64 (n : Int)) := by
  have : k < r.nums.length := h
  exact ⟨r.nums[k], List.getElem?_eq_getElem this, by simp [numsV, this]⟩
theorem nums_fit (r : Rec) (h : r.Fit) : ∀ n ∈ r.nums, n < 18446744073709551616 := by
  have := h.name
  have := h.data
  intro n hn
  simp only [Rec.nums, List.mem_cons, List.not_mem_nil, or_false] at hn
  rcases hn with rfl | rfl | rfl | rfl | rfl | rfl | rfl | rfl | rfl | rfl | rfl | rfl | rfl
  all_goals first | exact h.ino | exact h.mode | exact h.uid | exact h.gid | exact h.nlink | exact h.mtime | exact h.major | exact h.minor | exact h.rmajor | exact h.rminor | omega
theorem str_conv (w : World) (s : ByteArray) : (convert 9 28 (.string s)).run Try.prog w = .ok (.slice (some ⟨w.heap.size, 0, none⟩) s.size (grownCap w s.size 0 5)) (w.drew.alloc (.cells (bytesRow s (grownCap w s.size 0 5)) 5 ((bytesRow s (grownCap w s.size 0 5)).size, (bytesRow s (grownCap w s.size 0 5)).size + 1))) :=
  run_bytes_of_string w 9 28 5 s Try.underlying9 Try.underlying28 Try.underlying5
/-- A string turned into bytes: a row of the call's own; laid as an equation ahead of a walk. -/
theorem conv_ex (w : World) (s : ByteArray) (L : List UInt8) (hL : s.data.toList = L) (hlen : L.length ≤ 1099511627776) :
    ∃ A c W, (convert 9 28 (.string s)).run Try.prog w = .ok (.slice A L.length c) W ∧ Own W w.heap.size 5 1 (.slice A L.length c) L.length (bv L) ∧ Below w.heap.size w W ∧ w.heap.size < W.heap.size := by
  have hs : s.size = L.length := by rw [← hL]; rfl
  have hm : grownCap w s.size 0 5 ≤ maxLen := grownCap_le_maxLen w _ 0 5 (by rw [hs]; unfold maxLen; omega)
  have hown := own_bytes w 5 s (grownCap w s.size 0 5) (grownCap_ge w _ 0 5) hm
  have hrun := str_conv w s
  rw [hL] at hown
  rw [hs] at hown hrun
  exact ⟨_, _, _, hrun, hown, (Below.refl _ _).drew.alloc (by simp) _, by rw [World.size_alloc]; exact Nat.lt_succ_self _⟩

set_option maxRecDepth 100000 in
set_option maxHeartbeats 1000000 in
theorem written_any (r : Rec) (hr : r.Fit) (A : Option Addr) (c B : Nat) (w : World) (hB : B ≤ w.heap.size) (hd : Rd w B 1 A r.data.length (bv r.data)) :
    Calls Try.prog 18 #[RecV r A c] w (RetOwn w.heap.size [5] r.enc w) := by
  have hn1 := hr.name
  have hd1 := hr.data
  unfold RecV
  go_enter Try.func18, Try.ntmps18
  go_wp2
  go_loopw [3, 38] (fun s i wr => ∃ k : Nat, k ≤ 13 ∧ i = .int .i64 k ∧ s = .string ⟨(magic ++ hexes (r.nums.take k)).toArray⟩ ∧ Blk wr w.heap.size 39 (recCells r A c) ∧ Blk wr (w.heap.size + 1) 37 (numsV r).toArray ∧ Below w.heap.size w wr) (fun _ i _ => 13 - (intOf i).toNat)
  case atStart =>
    refine ⟨0, by omega, rfl, rfl, (Blk.new _ _ _).alloc _, ?_, ((Below.refl _ _).alloc (Nat.le_refl _) _).alloc (by simp) _⟩
    have := Blk.new (w.alloc (.cells (recCells r A c) 39)) 37 (numsV r).toArray
    simpa [numsV, Rec.nums] using this
  case round =>
    obtain ⟨k, hk, rfl, rfl, hb1, hb2, hbel⟩ := hrel
    have hsz := hbel.size
    have hlt1 := hb1.lt
    have hlt2 := hb2.lt
    by_cases hlt : k < 13
    · obtain ⟨n, hn, hnv⟩ := numsV_at r k hlt
      have hnf := nums_fit r hr n (List.mem_of_getElem? hn)
      have hcell : wr.cell? ⟨w.heap.size + 1, k, none⟩ = some (.int .u64 n) := by rw [hb2.cell]; simpa using hnv
      obtain ⟨T, hT⟩ : ∃ T, T = magic ++ hexes (r.nums.take k) := ⟨_, rfl⟩
      have hTl : T.length ≤ 1000 := by rw [hT, List.length_append, hexes_len]; simp [magic]; omega
      rw [← hT]
      have HT := Lib.hid hT; clear hT
      have HN := Lib.hid hn; clear hn hnv
      have hll : (low 8 n).length ≤ 8 := by rw [low_len]; omega
      go_wp2_with (go_at_call 28; refine (hex_any n hnf _).mono ?_; rintro e w1 ⟨rfl, hw1⟩)
      refine ⟨⟨k + 1, by omega, by go_num, ?_, hb1.old hw1, hb2.old hw1, hbel.trans (hw1.mono hsz)⟩, by simp [intOf]; omega⟩
      rw [List.take_add_one, HN.out, Option.toList_some, hexes_snoc, ← List.append_assoc, ← HT.out]
      simp [ByteArray.ext_iff]
    · have hk13 : k = 13 := by omega
      subst hk13
      have hTT : magic ++ hexes (r.nums.take 13) = r.head := rfl
      rw [hTT]
      clear hTT
      have hhl := Nat.le_of_eq r.head_len
      have hnc : wr.cell? ⟨w.heap.size, 10, none⟩ = some (.string ⟨r.name.toArray⟩) := by rw [hb1.cell]; rfl
      obtain ⟨L1, hL1⟩ : ∃ L, L = r.head ++ r.name := ⟨_, rfl⟩
      obtain ⟨L2, hL2⟩ : ∃ L, L = L1 ++ [0] := ⟨_, rfl⟩
      obtain ⟨L3, hL3⟩ : ∃ L, L = r.front ++ r.data := ⟨_, rfl⟩
      have e1 : L1.length ≤ 100110 := by rw [hL1, List.length_append]; omega
      have e2 : L2.length ≤ 100111 := by rw [hL2, List.length_append, List.length_singleton]; omega
      have hfront : pad4 L2 = r.front := by rw [hL2, hL1]; rfl
      have henc : pad4 L3 = r.enc := by rw [hL3]; rfl
      have hfl := r.front_len
      have e3 : L3.length ≤ 900000 := by rw [hL3, List.length_append, hfl]; omega
      have e4 : r.front.length ≤ 200000 := by rw [hfl]; omega
      clear hfl
      have H0 : (({ data := r.head.toArray } : ByteArray) ++ { data := r.name.toArray }).data.toList = L1 := by rw [hL1]; simp
      obtain ⟨A1, c1, w1, hcv, ho1, hw1, hl1⟩ := conv_ex wr _ L1 H0 (by omega)
      have H2 := Lib.hid hL2
      have H3 := Lib.hid hL3
      have HF := Lib.hid hfront
      have HE := Lib.hid henc
      clear hL1 hL2 hL3 hfront henc H0
      have hnew : Rd (w1.alloc (.cells #[.int .u8 0] 5)) (w1.heap.size + 1) 1 (some ⟨w1.heap.size, 0, none⟩) 1 (bv [0]) := new_rd w1 _ _
      go_wp2_with (first
        | (at_builtin; refine wpList_appb _ rfl (.tmp 51) (.tmp 52) rfl wr.heap.size (.slice A1 L1.length c1) _ L1 rfl (ho1.alloc _) (w1.heap.size + 1) _ 1 1 [0] rfl hnew L2 H2 (by omega) (by simp; omega) ?_; intro A2 c2 w2 ho2 hg2 hat2)
        )
      have hfr2 : Fr wr.heap.size [5] wr w2 := ((Fr.of_below hw1).alloc _).grown hg2 (own_row (ho1.alloc _) (by simp))
      have hpad := pad_any A2 c2 wr.heap.size L2 w2 (by omega) hfr2.size ho2
      rw [HF.out] at hpad
      refine hpad.mono ?_
      rintro e w3 ⟨A3, c3, rfl, ho3, hf3⟩
      have hfr3 := hfr2.trans hf3
      have hdc : w3.cell? ⟨w.heap.size, 11, none⟩ = some (.slice A r.data.length c) := by rw [(hfr3.blk hb1 (.inl hlt1)).cell]; rfl
      have hb13 := hfr3.below (Nat.le_refl _)
      have hdat : Rd w3 B 1 A r.data.length (bv r.data) := (hd.below (hbel.mono hB)).below (hb13.mono (by omega))
      go_wp2_with (at_builtin; refine wpList_appb _ rfl (.tmp 55) (.tmp 57) rfl wr.heap.size (.slice A3 r.front.length c3) _ r.front rfl ho3 B A _ c r.data rfl hdat L3 H3 (by omega) hb13.size ?_; intro A4 c4 w4 ho4 hg4 hat4)
      have hfr4 : Fr wr.heap.size [5] wr w4 := hfr3.grown hg4 (own_row ho3 (by simp))
      have hpad2 := pad_any A4 c4 wr.heap.size L3 w4 (by omega) hfr4.size ho4
      rw [HE.out] at hpad2
      refine hpad2.mono ?_
      rintro e w5 ⟨A5, c5, rfl, ho5, hf5⟩
      go_wp2
      go_ret
      exact ⟨A5, c5, rfl, ho5.more hsz, (Fr.of_below hbel).trans ((hfr4.trans hf5).more hsz (by simp))⟩
end Go.Proofs.Ytcecfjblgakfeaa
