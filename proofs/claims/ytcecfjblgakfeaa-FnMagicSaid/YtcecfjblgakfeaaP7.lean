/- The reader reads a record. -/
import Derived.Test.YtcecfjblgakfeaaP6
import Derived.Test.YtcecfjblgakfeaaS8
import Derived.Test.YtcecfjblgakfeaaF8
import Derived.Deep.MidRow
import Derived.StillTailTactics
namespace Go.Proofs.Ytcecfjblgakfeaa
open Go.RowKit
theorem Onl.tr {P Q : Nat → Prop} {w w' w'' : World} (h : Onl P w w') (h' : Onl Q w' w'') (hQ : ∀ k, k < w.heap.size → Q k → P k) : Onl P w w'' :=
  ⟨h'.1.trans h.1, h'.2.1.trans h.2.1, h'.2.2.1.trans h.2.2.1, Nat.le_trans h.2.2.2.1 h'.2.2.2.1, fun k hk hn =>
    (h'.2.2.2.2 k (Nat.lt_of_lt_of_le hk h.2.2.2.1) fun hq => hn (hQ k hk hq)).trans (h.2.2.2.2 k hk hn)⟩
theorem Blk.new_at (w : World) (t : TypeId) (cs : Array Value) {k : Nat} (h : k = w.heap.size) : Blk (w.alloc (.cells cs t)) k t cs := h ▸ Blk.new w t cs
theorem enc_head (r : Rec) (rest : List UInt8) : (r.enc ++ rest).take 110 = r.head := by
  have e : r.enc ++ rest = r.head ++ (r.name ++ ([0] ++ fill (r.head ++ r.name ++ [0]).length ++ r.data ++ fill (r.front ++ r.data).length ++ rest)) := by
    simp only [Rec.enc, Rec.front, pad4, List.append_assoc]
  rw [e, List.take_append_of_le_length (by rw [r.head_len]; omega), List.take_of_length_le (by rw [r.head_len]; omega)]
theorem enc_name0 (r : Rec) (rest : List UInt8) : ((r.enc ++ rest).drop 110).take (r.name.length + 1) = r.name ++ [0] := by
  have e : r.enc ++ rest = r.head ++ ((r.name ++ [0]) ++ (fill (r.head ++ r.name ++ [0]).length ++ r.data ++ fill (r.front ++ r.data).length ++ rest)) := by
    simp only [Rec.enc, Rec.front, pad4, List.append_assoc]
  have hl : r.name.length + 1 = (r.name ++ [0]).length := by simp
  rw [e, show 110 = r.head.length from r.head_len.symm, List.drop_left, hl, List.take_left]
theorem uv_hdr (r : Rec) : (uv r.nums).toArray = hdrCells r := by simp [uv, Rec.nums, hdrCells]
set_option maxRecDepth 100000 in
theorem mk_bytes32 (N : Nat) (hN : N ≤ 65536) (w : World) : (Instr.makeSlice 28 (.int .u32 (N : Int)) (.int .u32 (N : Int))).run Try.prog w = .ok (.slice (some ⟨w.heap.size, 0, none⟩) N N) (w.alloc (.cells (List.replicate N (.int .u8 0)).toArray 5)) := by
  obtain ⟨i0, hi, hz0, hz1, hz2⟩ := info_parts u8_info
  have := run_make (P := Try.prog) w 28 5 i0 (.int .u8 0) Try.underlying28 hi hz0 .u32 .u32 N N (by omega) (by omega) (by rw [hz2]; omega) (by omega)
  rw [this]
  congr 3
  simp only [hz1, Int.toNat_natCast, Nat.mul_one, Value.cells]
  rw [← toList_madeCells_one]
/-- The package's record as it is read: its section at block g, its place. -/
abbrev rRecCells (r : Rec) (g p l f : Nat) : Array Value :=
  #[.iface 116 (.pointer (some ⟨g, 0, none⟩)), .int .u64 r.ino, .int .u64 r.mode, .int .u64 r.uid, .int .u64 r.gid, .int .u64 r.nlink, .int .u64 r.mtime, .int .u64 r.data.length, .int .u64 0, .int .u64 r.major, .int .u64 r.minor, .int .u64 r.rmajor, .int .u64 r.rminor, .string ⟨r.name.toArray⟩, .int .i64 p, .int .u64 l, .int .i64 f]
/-- The section of a record's data. -/
def Sect (w : World) (gS g f n : Nat) : Prop := Blk w gS 119 #[.iface 71 (.pointer (some ⟨g, 0, none⟩)), .int .i64 f, .int .i64 f, .int .i64 ((n : Int) + f), .int .i64 n]
/-- What the reading of a record comes to. -/
def Recd (r : Rec) (gR g pos : Nat) (w : World) (e : Ending) (w' : World) : Prop :=
  ∃ gS, e = .returned (.tuple #[.agg (rRecCells r gS pos r.front.length (pos + r.front.length)), .nilIface]) ∧ Sect w' gS g (pos + r.front.length) r.data.length ∧ w.heap.size ≤ gS ∧
    Rst w' gR 71 (.pointer (some ⟨g, 0, none⟩)) (pos + r.enc.length) ∧ Onl (fun k => k = gR) w w'
set_option maxRecDepth 100000 in
set_option maxHeartbeats 4000000 in
theorem rrec_any (r : Rec) (hs : r.Small) (gR g b off B n c pos : Nat) (d rest : List UInt8) (w : World) (hR : Rst w gR 71 (.pointer (some ⟨g, 0, none⟩)) pos) (hb : Blk w g 73 #[.slice (some ⟨b, off, none⟩) n c, .int .i64 0])
    (hr : Rd w B 1 (some ⟨b, off, none⟩) n (bv d)) (hnc : n ≤ c) (hn9 : n ≤ 1000000) (hBR : B ≤ gR) (hp4 : pos % 4 = 0) (hd : d.drop pos = r.enc ++ rest) :
    Calls Try.prog 79 #[.pointer (some ⟨gR, 0, none⟩)] w (Recd r gR g pos w) := by
  have hdl : d.length = n := by have := hr.1; rw [bv_len] at this; omega
  have hfl := r.front_len
  have hel := r.enc_len
  have hpl : pos + r.enc.length + rest.length = n := by
    have := congrArg List.length hd
    rw [List.length_drop, List.length_append] at this
    omega
  have hn1 := hs.name
  have hd1 := hs.data
  obtain ⟨z1, hz1, hmk1⟩ : ∃ z1 : List Value, z1.length = 110 ∧ ∀ W, (Instr.makeSlice 28 (.int .i64 110) (.int .i64 110)).run Try.prog W = .ok (.slice (some ⟨W.heap.size, 0, none⟩) 110 110) (W.alloc (.cells z1.toArray 5)) :=
    ⟨List.replicate 110 (.int .u8 0), List.length_replicate, fun W => mk_bytes 110 (by omega) W⟩
  obtain ⟨z2, hz2, hmk2⟩ : ∃ z2 : List Value, z2 = bv (List.replicate 52 0) ∧ ∀ W, (Instr.makeSlice 28 (.int .i64 52) (.int .i64 52)).run Try.prog W = .ok (.slice (some ⟨W.heap.size, 0, none⟩) 52 52) (W.alloc (.cells z2.toArray 5)) :=
    ⟨_, rfl, fun W => by rw [bv, List.map_replicate]; exact mk_bytes 52 (by omega) W⟩
  obtain ⟨z3, hz3, hmk3⟩ : ∃ z3 : List Value, z3.length = r.name.length + 1 ∧ ∀ W, (Instr.makeSlice 28 (.int .u32 ((r.name.length : Int) + 1)) (.int .u32 ((r.name.length : Int) + 1))).run Try.prog W = .ok (.slice (some ⟨W.heap.size, 0, none⟩) (r.name.length + 1) (r.name.length + 1)) (W.alloc (.cells z3.toArray 5)) :=
    ⟨List.replicate (r.name.length + 1) (.int .u8 0), List.length_replicate, fun W => by have := mk_bytes32 (r.name.length + 1) (by omega) W; rwa [Int.natCast_add] at this⟩
  have hcall := fun gp W h1 h2 h3 h4 => rread_any gR g B b off n c gp 110 110 pos (pos + 110) d r.head z1 W h1 h2 h3 hnc hn9 (by omega) rfl (by omega) h4 hz1 (Lib.hid (by rw [hd, enc_head]))
  have HC1 := Lib.hid hcall
  have c2 : w.cell? ⟨gR, 2, none⟩ = some (.int .i64 pos) := by rw [hR.cell]; rfl
  have hglt := hR.lt
  have hglt2 := hb.lt
  clear hcall
  have HDL := Lib.hid hdl
  have HFL := Lib.hid hfl
  have HEL := Lib.hid hel
  have HPL := Lib.hid hpl
  have HD := Lib.hid hd
  clear hdl hfl hel hpl hd
  have HZ2 := Lib.hid hz2
  have HZ3 := Lib.hid hz3
  clear hz1 hz2 hz3
  go_enter Try.func79, Try.ntmps79
  go_wp2_with fail
  refine (HC1.out _ _ (((hR.alloc _).alloc _).alloc _) (((hb.alloc _).alloc _).alloc _) (hr.below ((((Below.refl B w).alloc (by omega) _).alloc (by simp; omega) _).alloc (by simp; omega) _)) (Blk.new_at _ 5 z1.toArray (by simp))).mono ?_
  rintro e w1 ⟨rfl, hR1, hf1, ho1⟩
  have hT1 : Blk w1 w.heap.size 54 #[.nilIface, .int .u64 0, .int .u64 0, .int .u64 0, .int .u64 0, .int .u64 0, .int .u64 0, .int .u64 0, .int .u64 0, .int .u64 0, .int .u64 0, .int .u64 0, .int .u64 0, .string ⟨#[]⟩, .int .i64 0, .int .u64 0, .int .i64 0] := ho1.blk (((Blk.new w 54 _).alloc _).alloc _) (by omega)
  have hH1 : Blk w1 (w.heap.size + 1) 156 #[.int .u32 0, .int .u32 0, .int .u32 0, .int .u32 0, .int .u32 0, .int .u32 0, .int .u32 0, .int .u32 0, .int .u32 0, .int .u32 0, .int .u32 0, .int .u32 0, .int .u32 0] := ho1.blk ((Blk.new_at _ 156 _ (by simp)).alloc _) (by omega)
  have hb1 : Blk w1 g 73 #[.slice (some ⟨b, off, none⟩) n c, .int .i64 0] := ho1.blk (((hb.alloc _).alloc _).alloc _) (fun e => e.elim (fun e => hb.ne_ hR (by decide) e) (fun e => by have := hb.lt; omega))
  have ho1 : Onl (fun k => k = gR) w w1 := ((((Onl.refl _ w).alloc _).alloc _).alloc _).tr ho1 (fun k hk h => h.elim id (fun e => by omega))
  have hr1 : Rd w1 B 1 (some ⟨b, off, none⟩) n (bv d) := ho1.rd hr (by omega) (fun k _ e => by omega)
  have hsz1 : w.heap.size + 1 + 1 < w1.heap.size := hf1.lt
  have hmg : Rd w1 w1.heap.size 1 (some ⟨w.heap.size + 1 + 1, 0, none⟩) 6 (bv magic) := ⟨rfl, fun _ => ⟨_, 0, rfl, hsz1, fun j u hu => by
    have hj : j < magic.length := by
      have := (List.getElem?_eq_some_iff.1 hu).1
      rwa [bv_len] at this
    rw [Nat.zero_add, hf1.cell, List.getElem?_toArray, Rec.head, bv_app, List.getElem?_append_left (by rw [bv_len]; exact hj)]
    exact hu⟩⟩
  have hcv := run_str (P := Try.prog) w1 28 9 5 _ _ 6 110 magic Try.underlying28 Try.underlying5 Try.underlying9 hmg
  have cm : w1.cell? ⟨gR, 0, none⟩ = some (.string ⟨magic.toArray⟩) := by rw [hR1.cell]; rfl
  have hbl : (bes r.nums).length = 52 := by rw [bes_len]; rfl
  have hhx : uhex (bes r.nums) = hexes r.nums := uhex_bes r.nums (nums_small r hs)
  have hdst : Blk (w1.alloc (.cells z2.toArray 5)) w1.heap.size 5 (bv (List.replicate 52 0)).toArray := by rw [← HZ2.out]; exact Blk.new w1 5 _
  have hcall2 := unhex_any (bes r.nums) 52 104 w1.heap.size 52 (w.heap.size + 1 + 1) 6 104 hbl.symm (by omega) (w1.alloc (.cells z2.toArray 5)) hdst (fun j u hu => by
    rw [hhx] at hu
    have hj : j < (hexes r.nums).length := by
      have := (List.getElem?_eq_some_iff.1 hu).1
      rwa [bv_len] at this
    rw [(hf1.alloc _).cell, List.getElem?_toArray, Rec.head, bv_app, List.getElem?_append_right (by rw [bv_len]; simp [magic]), bv_len, show 6 + j - magic.length = j by simp [magic]]
    exact hu) (by omega) (by omega) (by omega)
  have HC2 := Lib.hid hcall2
  have HBL := Lib.hid hbl
  clear hcall2 hbl hhx hmg hR hb hr c2
  go_wp2_with fail
  refine HC2.out.mono ?_
  rintro e w2 ⟨rfl, hd2, hg2⟩
  have ho12 : Onl (fun k => k = gR) w w2 := (ho1.alloc _).tr (Onl.of_grown hg2) (fun k hk e => by omega)
  have hb2 : Below w1.heap.size w1 w2 := ((Below.refl _ _).alloc (Nat.le_refl _) _).grown hg2 (by simp) (fun j hj => by cases hj; exact Nat.le_refl _)
  have hR2 : Rst w2 gR 71 (.pointer (some ⟨g, 0, none⟩)) (pos + 110) := hR1.old hb2
  have hT2 := hT1.old hb2
  have hH2 := hH1.old hb2
  have hb3 := hb1.old hb2
  have hr2 := hr1.below (hb2.mono (by omega))
  have hx2 : Blk w2 (w.heap.size + 1) 156 (uv (List.replicate 13 0)).toArray := hH2
  have hcall3 := hread_any r.nums rfl (nums_small r hs) (w.heap.size + 1) w1.heap.size w2 hx2 hd2
  have HC3 := Lib.hid hcall3
  clear hcall3 hb2 hg2 hx2 hb1 hR1 hT1 hH1 hr1 hcv cm hH2
  go_wp2_with fail
  refine HC3.out.mono ?_
  rintro e w3 ⟨rfl, hh3, ho3⟩
  have hgR : gR ≠ w.heap.size + 1 := by omega
  have hR3 : Rst w3 gR 71 (.pointer (some ⟨g, 0, none⟩)) (pos + 110) := ho3.blk hR2 hgR
  have hT3 := ho3.blk hT2 (by omega)
  have hb4 := ho3.blk hb3 (by omega)
  have hsz2 := ho12.size
  have hr3 : Rd w3 B 1 (some ⟨b, off, none⟩) n (bv d) := ho3.rd hr2 (by omega) (fun k _ e => by omega)
  have ho13 : Onl (fun k => k = gR) w w3 := ho12.tr ho3 (fun k hk e => by omega)
  rw [uv_hdr] at hh3
  have c11 : w3.cell? ⟨w.heap.size + 1, 11, none⟩ = some (.int .u32 ((r.name.length : Int) + 1)) := by rw [hh3.cell]; rfl
  have hcall4 := raligned_any gR g B b off n c w3.heap.size (r.name.length + 1) (r.name.length + 1) (pos + 110) (pos + 110 + (r.name.length + 1)) (pos + r.front.length) d (r.name ++ [0]) z3 (w3.alloc (.cells z3.toArray 5)) (Blk.alloc hR3 _) (hb4.alloc _) (hr3.alloc (by have := ho13.size; omega) _) hnc hn9 (by have := HFL.out; have := HEL.out; have := HPL.out; omega) rfl (by have := HFL.out; omega) (by omega) (Blk.new _ _ _) HZ3.out (Lib.hid (by rw [← List.drop_drop, HD.out, enc_name0]))
  have HC4 := Lib.hid hcall4
  clear hcall4 hR2 hT2 hb3 hr2 hd2 HC1 HC2 HC3
  have hr32 : ((r.name.length : Int) + 1) < 4294967296 := by omega
  go_wp2_with fail
  refine HC4.out.mono ?_
  rintro e w4 ⟨rfl, hR4, hn4, ho4⟩
  have hsz3 := ho13.size
  have hb5 : Blk w4 g 73 #[.slice (some ⟨b, off, none⟩) n c, .int .i64 0] := ho4.blk (hb4.alloc _) (fun e => e.elim (fun e => hb4.ne_ hR3 (by decide) e) (fun e => by have := hb4.lt; omega))
  have hT4 := ho4.blk (hT3.alloc (.cells z3.toArray 5)) (fun e => e.elim (fun e => by omega) (fun e => by have := hT3.lt; omega))
  have hh4 := ho4.blk (hh3.alloc (.cells z3.toArray 5)) (fun e => e.elim (fun e => by omega) (fun e => by have := hh3.lt; omega))
  have ho14 : Onl (fun k => k = gR) w w4 := (ho13.alloc _).tr ho4 (fun k hk e => e.elim id (fun e => by omega))
  have hz4 : w3.heap.size < w4.heap.size := hn4.lt
  obtain ⟨q, hq⟩ : ∃ q, q = pos + r.front.length := ⟨_, rfl⟩
  rw [← hq] at hR4
  have HQ := Lib.hid hq
  clear hq hR3 hT3 hb4 hr3 HC4 hf1 ho1 hdst ho12 ho13 hh3 ho3 hgR c11 ho4 HZ2 HZ3 HBL hmk1 hmk2 hmk3
  have hc4 := hh4.cell
  go_wp2_with fail
  refine (info_any r hs _).mono ?_
  rintro e w5 ⟨rfl, hb45⟩
  have hR5 : Rst w5 gR 71 (.pointer (some ⟨g, 0, none⟩)) q := hR4.old hb45
  have hT5 := hT4.old hb45
  have hh5 := hh4.old hb45
  have hn5 := hn4.old hb45
  have hb6 := hb5.old hb45
  have ho15 : Onl (fun k => k = gR) w w5 := ho14.tr (Onl.of_below (P := fun k => k = gR) hb45) (fun _ _ h => h)
  have hz5 := hb45.size
  have hnm : Rd w5 w5.heap.size 1 (some ⟨w3.heap.size, 0, none⟩) r.name.length (bv r.name) := ⟨by rw [bv_len, Nat.mul_one], fun _ => ⟨_, 0, rfl, by omega, fun j u hu => by
    have hj : j < r.name.length := by
      have := (List.getElem?_eq_some_iff.1 hu).1
      rwa [bv_len] at this
    rw [Nat.zero_add, hn5.cell, List.getElem?_toArray, bv_app, List.getElem?_append_left (by rw [bv_len]; exact hj)]
    exact hu⟩⟩
  have hcv := fun o => run_str (P := Try.prog) (w5.alloc o) 28 9 5 _ _ r.name.length (r.name.length + 1) r.name Try.underlying28 Try.underlying5 Try.underlying9 (hnm.alloc (Nat.le_refl _) o)
  have hc5 := hh5.cell
  have d2 : w5.cell? ⟨gR, 2, none⟩ = some (.int .i64 q) := by rw [hR5.cell]; rfl
  have d1 : w5.cell? ⟨gR, 1, none⟩ = some (.iface 71 (.pointer (some ⟨g, 0, none⟩))) := by rw [hR5.cell]; rfl
  have hgl5 : gR < w5.heap.size := by omega
  have hq9 : (q : Int) ≤ 2000000 := by have := HQ.out; have := HFL.out; have := HEL.out; have := HPL.out; omega
  have hpq : (pos : Int) ≤ q := by have := HQ.out; omega
  have hc5l : w.heap.size + 1 < w5.heap.size := hh5.lt
  clear hnm hR4 hT4 hh4 hn4 hb5 hc4 ho14
  go_wp2_with fail
  obtain ⟨w6, hw6⟩ : ∃ w6, w6 = w5.alloc (.cells #[.int .u64 r.ino, .int .u64 r.mode, .int .u64 r.uid, .int .u64 r.gid, .int .u64 r.nlink, .int .u64 r.mtime, .int .u64 r.data.length, .int .u64 0, .int .u64 r.major, .int .u64 r.minor, .int .u64 r.rmajor, .int .u64 r.rminor, .string ⟨r.name.toArray⟩] 52) := ⟨_, rfl⟩
  have hI6 : Blk w6 w5.heap.size 52 #[.int .u64 r.ino, .int .u64 r.mode, .int .u64 r.uid, .int .u64 r.gid, .int .u64 r.nlink, .int .u64 r.mtime, .int .u64 r.data.length, .int .u64 0, .int .u64 r.major, .int .u64 r.minor, .int .u64 r.rmajor, .int .u64 r.rminor, .string ⟨r.name.toArray⟩] := by rw [hw6]; exact Blk.new _ _ _
  have hb56 : Below w5.heap.size w5 w6 := by rw [hw6]; exact (Below.refl _ _).alloc (Nat.le_refl _) _
  have hR6 : Rst w6 gR 71 (.pointer (some ⟨g, 0, none⟩)) q := hR5.old hb56
  have hT6 := hT5.old hb56
  have hh6 := hh5.old hb56
  have ho16 : Onl (fun k => k = gR) w w6 := ho15.tr (Onl.of_below (P := fun k => k = gR) hb56) (fun _ _ h => h)
  have hI6l := hI6.lt
  rw [← hw6]
  clear hw6 hcv hc5 d1 d2 hR5 hT5 hh5 hn5 hb6 ho15 hb45 hb56
  have d1 : w6.cell? ⟨gR, 1, none⟩ = some (.iface 71 (.pointer (some ⟨g, 0, none⟩))) := by rw [hR6.cell]; rfl
  have d2 : w6.cell? ⟨gR, 2, none⟩ = some (.int .i64 q) := by rw [hR6.cell]; rfl
  obtain ⟨dl, hdl⟩ : ∃ dl, dl = r.data.length := ⟨_, rfl⟩
  have d6 : w6.cell? ⟨w.heap.size + 1, 6, none⟩ = some (.int .u32 dl) := by rw [hh6.cell, hdl]; rfl
  have hdl9 : (dl : Int) ≤ 300 := by omega
  have hs3 : IntKind.i64.wrap (dl : Int) = (dl : Int) := IntWalk.i64_in _ (by omega)
  have hcall := section_part 71 (.pointer (some ⟨g, 0, none⟩)) q dl (by omega) (by omega)
  have HC5 := Lib.hid hcall
  have HDL2 := Lib.hid hdl
  clear hcall hdl
  go_region_held3 (fun w' => w'.cell? ⟨gR, 1, none⟩ = some (.iface 71 (.pointer (some ⟨g, 0, none⟩))) ∧ w'.cell? ⟨gR, 2, none⟩ = some (.int .i64 q) ∧ w'.cell? ⟨w.heap.size + 1, 6, none⟩ = some (.int .u32 dl)) (go_keep)
    (first
      | (go_at_call 50
         refine (HC5.out _).mono ?_
         rintro e w7 ⟨rfl, hw7⟩
         have hb7 : Below w6.heap.size w6 w7 := by rw [hw7]; exact (below_drewN (Below.refl _ _) 1).alloc (Nat.le_refl _) _
         have hS7 : Blk w7 w6.heap.size 119 #[.iface 71 (.pointer (some ⟨g, 0, none⟩)), .int .i64 q, .int .i64 q, .int .i64 ((dl : Int) + q), .int .i64 dl] := by rw [hw7]; exact Blk.new _ _ _
         have hR7 : Rst w7 gR 71 (.pointer (some ⟨g, 0, none⟩)) q := hR6.old hb7
         have hh7 := hh6.old hb7
         have f1 : w7.cell? ⟨gR, 1, none⟩ = some (.iface 71 (.pointer (some ⟨g, 0, none⟩))) := by rw [hR7.cell]; rfl
         have f2 : w7.cell? ⟨gR, 2, none⟩ = some (.int .i64 q) := by rw [hR7.cell]; rfl
         have f6 : w7.cell? ⟨w.heap.size + 1, 6, none⟩ = some (.int .u32 dl) := by rw [hh7.cell, HDL2.out]; rfl
         clear hw7))
  have hT7 := hT6.old hb7
  have hI7 := hI6.old hb7
  have ho17 : Onl (fun k => k = gR) w w7 := ho16.tr (Onl.of_below (P := fun k => k = gR) hb7) (fun _ _ h => h)
  have hz7 := hS7.lt
  obtain ⟨s, hsm⟩ : ∃ s, s = q + dl := ⟨_, rfl⟩
  obtain ⟨E, hE⟩ : ∃ E, E = (s + 3) / 4 * 4 := ⟨_, rfl⟩
  have hEp : E = pos + r.enc.length := by have := HQ.out; have := HFL.out; have := HEL.out; have := HDL2.out; omega
  have hsum : IntKind.i64.wrap ((q : Int) + (dl : Int)) = (s : Int) := by rw [IntWalk.i64_in _ (by omega)]; omega
  have hcall6 := round4_any s (by omega)
  rw [← hE] at hcall6
  have HC6 := Lib.hid hcall6
  have HE := Lib.hid hEp
  have fz := hR7.frozen 2
  clear hcall6 hE hEp hsm hR6 hT6 hh6 hI6 ho16 hb7 d1 d2 d6 HC5
  have fz' : w7.drew.frozen? ⟨gR, 2, none⟩ = false := fz
  have f2' : w7.drew.cell? ⟨gR, 2, none⟩ = some (.int .i64 q) := f2
  have f6' : w7.drew.cell? ⟨w.heap.size + 1, 6, none⟩ = some (.int .u32 dl) := f6
  go_wp2_with fail
  refine wp_region_still_tail 10 (by kernel_rfl) (by kernel_rfl) ?_
  simp only [List.take_succ_cons, List.take_zero, List.drop_succ_cons, List.drop_zero]
  repeat still_step
  still_call ((HC6.out _).mono (fun e w' h => ⟨h.1, h.2.symm⟩))
  refine wpStill_nil ?_
  change wpList _ _ _ _ _ w7.drew
  have hI8 := hI7.drew
  have hT8 := hT7.drew
  have hR8 := Blk.drew hR7
  have hS8 := hS7.drew
  have ho18 := ho17.drew
  have hz8 : w6.heap.size < w7.drew.heap.size := hz7
  clear f1 f2 f6 f2' f6' fz hI7 hT7 hR7 hS7 ho17 hh7 hz7
  generalize w7.drew = w8 at *
  have hi8 := hI8.cell
  have hgT : gR ≠ w.heap.size := by omega
  have hgI : gR ≠ w5.heap.size := by omega
  have g2 : w8.cell? ⟨gR, 2, none⟩ = some (.int .i64 q) := by rw [hR8.cell]; rfl
  have hTl := hT8.lt
  have hT9 : Blk (w8.setCell ⟨gR, 2, none⟩ (.int .i64 E)) w.heap.size 54 _ := hT8.far (by simpa using hgT.symm) _
  have hone : (#[.iface 116 (.pointer (some ⟨w6.heap.size, 0, none⟩)), .int .u64 r.ino, .int .u64 r.mode, .int .u64 r.uid, .int .u64 r.gid, .int .u64 r.nlink, .int .u64 r.mtime, .int .u64 r.data.length, .int .u64 0, .int .u64 r.major, .int .u64 r.minor, .int .u64 r.rmajor, .int .u64 r.rminor, .string ⟨r.name.toArray⟩, .int .i64 pos, .int .u64 ((q : Int) - pos), .int .i64 q] : Array Value).all (·.oneCell') = true := by simp [Value.oneCell']
  have HONE := Lib.hid hone
  clear hone
  go_wp2_with (refine wpList_store_row rfl 54 (.tmp 2) (.tmp 113) rfl w.heap.size #[.iface 116 (.pointer (some ⟨w6.heap.size, 0, none⟩)), .int .u64 r.ino, .int .u64 r.mode, .int .u64 r.uid, .int .u64 r.gid, .int .u64 r.nlink, .int .u64 r.mtime, .int .u64 r.data.length, .int .u64 0, .int .u64 r.major, .int .u64 r.minor, .int .u64 r.rmajor, .int .u64 r.rminor, .string ⟨r.name.toArray⟩, .int .i64 pos, .int .u64 ((q : Int) - pos), .int .i64 q] rfl rfl 54 _ hT9 info54 (by simp) HONE.out ?_)
  have hR9 : Blk (w8.setCell ⟨gR, 2, none⟩ (.int .i64 E)) gR 141 #[.string ⟨magic.toArray⟩, .iface 71 (.pointer (some ⟨g, 0, none⟩)), .int .i64 E] := by simpa using hR8.set_ 2 (.int .i64 (E : Int))
  have hS9 : Blk (w8.setCell ⟨gR, 2, none⟩ (.int .i64 E)) w6.heap.size 119 _ := hS8.far (by simp; omega) _
  have ho19 : Onl (fun k => k = gR) w (w8.setCell ⟨gR, 2, none⟩ (.int .i64 E)) := ho18.set_ (fun _ => rfl) _
  have hx9 := setRow_blk (cells := #[.iface 116 (.pointer (some ⟨w6.heap.size, 0, none⟩)), .int .u64 r.ino, .int .u64 r.mode, .int .u64 r.uid, .int .u64 r.gid, .int .u64 r.nlink, .int .u64 r.mtime, .int .u64 r.data.length, .int .u64 0, .int .u64 r.major, .int .u64 r.minor, .int .u64 r.rmajor, .int .u64 r.rminor, .string ⟨r.name.toArray⟩, .int .i64 pos, .int .u64 ((q : Int) - pos), .int .i64 q]) hT9
  have hg9 := setRow_grown (w8.setCell ⟨gR, 2, none⟩ (.int .i64 E)) w.heap.size #[.iface 116 (.pointer (some ⟨w6.heap.size, 0, none⟩)), .int .u64 r.ino, .int .u64 r.mode, .int .u64 r.uid, .int .u64 r.gid, .int .u64 r.nlink, .int .u64 r.mtime, .int .u64 r.data.length, .int .u64 0, .int .u64 r.major, .int .u64 r.minor, .int .u64 r.rmajor, .int .u64 r.rminor, .string ⟨r.name.toArray⟩, .int .i64 pos, .int .u64 ((q : Int) - pos), .int .i64 q]
  generalize (w8.setCell ⟨gR, 2, none⟩ (.int .i64 E)).setRow w.heap.size _ = w9 at *
  have hR10 : Blk w9 gR 141 _ := (hg9.block gR hR9.lt (fun e => by injection e with e; omega)).trans hR9
  have hS10 : Blk w9 w6.heap.size 119 _ := (hg9.block _ hS9.lt (fun e => by injection e with e; omega)).trans hS9
  have ho20 : Onl (fun k => k = gR) w w9 := ho19.tr (Onl.of_grown hg9) (fun k hk e => by omega)
  have eL : ((q : Int) - (pos : Int)) = (r.front.length : Int) := by have := HQ.out; omega
  rw [eL, HQ.out] at hx9
  have hxc := hx9.cell
  have hlast : w.heap.size ≤ w6.heap.size := by omega
  clear hR9 hS9 ho19 hg9 hT9 hR8 hS8 ho18 hT8 hI8 hi8 g2 hx9 hI6l hc5l HC6
  exact bodyPost_ret (v := .tuple #[.agg (rRecCells r w6.heap.size pos r.front.length (pos + r.front.length)), .nilIface]) (by simp [results, Try.results79, go_sem, hxc]) rfl
    ⟨w6.heap.size, rfl, by rw [HQ.out, HDL2.out] at hS10; exact hS10, hlast, by rw [HE.out] at hR10; exact hR10, ho20⟩
end Go.Proofs.Ytcecfjblgakfeaa
