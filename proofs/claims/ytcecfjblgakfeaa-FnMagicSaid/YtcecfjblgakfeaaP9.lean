/- The reader hands records on up to the trailer. -/
import Derived.Test.YtcecfjblgakfeaaP8
namespace Go.Proofs.Ytcecfjblgakfeaa
open Go.RowKit
theorem m139 (a : Addr) (w : World) : (method 292 139 (.pointer (some a)) "ReadRecord").run Try.prog w = .ok (79, .pointer (some a)) w := by kernel_rfl
theorem n139 (a : Addr) (w : World) : (nilAhead 292 139 (.pointer (some a)) "ReadRecord").run Try.prog w = .ok (some false) w := by kernel_rfl
theorem rcells_one (r : Rec) (g p l f : Nat) : (rRecCells r g p l f).all (·.oneCell') = true := by simp [Value.oneCell']
theorem Blk.range {w : World} {g : Nat} {t : TypeId} {cs : List Value} (h : Blk w g t cs.toArray) : w.rangeAt g 0 cs := fun j v hv => by rw [Nat.zero_add, h.cell]; simpa using hv
/-- The source of a reader: bytes d. -/
def Src (w : World) (g b off B n c : Nat) (d : List UInt8) : Prop := Blk w g 73 #[.slice (some ⟨b, off, none⟩) n c, .int .i64 0] ∧ Rd w B 1 (some ⟨b, off, none⟩) n (bv d) ∧ n ≤ c ∧ n ≤ 1000000
theorem Src.onl {P : Nat → Prop} {w w' : World} {g b off B n c : Nat} {d : List UInt8} (h : Src w g b off B n c d) (ho : Onl P w w') (hB : B ≤ w.heap.size) (hg : ¬ P g) (hP : ∀ k, k < w.heap.size → P k → B ≤ k) : Src w' g b off B n c d :=
  ⟨ho.blk h.1 hg, ho.rd h.2.1 hB hP, h.2.2⟩
theorem Src.below {w w' : World} {g b off B n c : Nat} {d : List UInt8} (h : Src w g b off B n c d) (hb : Below w.heap.size w w') (hB : B ≤ w.heap.size) : Src w' g b off B n c d :=
  ⟨h.1.old hb, h.2.1.below (hb.mono hB), h.2.2⟩
set_option maxRecDepth 100000 in
set_option maxHeartbeats 1000000 in
theorem eof_rec (r : Rec) (hs : r.Small) (hne : r.name ≠ trailer) (gR g b off B n c pos : Nat) (d rest : List UInt8) (w : World) (hR : Rst w gR 71 (.pointer (some ⟨g, 0, none⟩)) pos) (hS : Src w g b off B n c d) (hBR : B ≤ gR) (hp4 : pos % 4 = 0) (hd : d.drop pos = r.enc ++ rest) :
    Calls Try.prog 88 #[.agg #[.iface 139 (.pointer (some ⟨gR, 0, none⟩))]] w (Recd r gR g pos w) := by
  have hgl := hR.lt
  have hcall := fun W (hW : Below w.heap.size w W) => rrec_any r hs gR g b off B n c pos d rest W (Blk.old hR hW) (hS.below hW (by omega)).1 (hS.below hW (by omega)).2.1 hS.2.2.1 hS.2.2.2 hBR hp4 hd
  have HC := Lib.hid hcall
  have hmt := fun W => m139 ⟨gR, 0, none⟩ W
  have hname : (r.name == [84, 82, 65, 73, 76, 69, 82, 33, 33, 33]) = false := by
    show (r.name == trailer) = false
    simpa using hne
  have HD := Lib.hid hd
  clear hcall hd hne hp4
  go_enter Try.func88, Try.ntmps88
  go_wp2_with fail
  refine (HC.out _ (((Below.refl _ _).alloc (Nat.le_refl _) _).alloc (by simp) _)).mono ?_
  rintro e w1 ⟨gS, he, hsect, hle, hR1, ho1⟩
  have hT1 : Blk w1 (w.heap.size + 1) 54 zRec := ho1.blk (Blk.new_at _ 54 _ (by simp)) (by omega)
  have ho1 : Onl (fun k => k = gR) w w1 := (((Onl.refl _ w).alloc _).alloc _).tr ho1 (fun _ _ h => h)
  obtain ⟨cs, hcs⟩ : ∃ cs : List Value, cs.toArray = rRecCells r gS pos r.front.length (pos + r.front.length) := ⟨(rRecCells r gS pos r.front.length (pos + r.front.length)).toList, rfl⟩
  rw [← hcs] at he
  have hone : cs.toArray.all (·.oneCell') = true := by rw [hcs]; exact rcells_one _ _ _ _ _
  have hl17 : cs.length = 17 := by
    have := congrArg Array.size hcs
    simpa using this
  have hi54 : (Try.prog.info? 54).map (·.size) = some cs.length := by rw [hl17]; exact info54
  subst he
  have hbx : Blk ((w1.alloc (.cells zRec 54)).setRow w1.heap.size cs.toArray) w1.heap.size 54 cs.toArray := setRow_blk (Blk.new _ _ _)
  have hbw : Below w1.heap.size w1 ((w1.alloc (.cells zRec 54)).setRow w1.heap.size cs.toArray) := ((Below.refl _ _).alloc (Nat.le_refl _) _).grown (setRow_grown _ _ _) (by simp) (fun j hj => by cases hj; exact Nat.le_refl _)
  have hrg := hbx.range
  have hT2 := hT1.old hbw
  have hcn : ((w1.alloc (.cells zRec 54)).setRow w1.heap.size cs.toArray).cell? ⟨w1.heap.size, 13, none⟩ = some (.string ⟨r.name.toArray⟩) := by rw [hbx.cell, hcs]; rfl
  have hold17 : zRec.size = cs.toArray.size := by rw [show cs.toArray.size = 17 by simpa using hl17]; rfl
  have HO17 := Lib.hid hold17
  have hsz1 := ho1.size
  have HCS := Lib.hid hcs
  clear hcs hl17 hT1 HC hold17
  go_wp2_with (first
    | (refine wpList_store_row rfl 54 (.tmp 4) (.tmp 10) rfl w1.heap.size cs.toArray rfl rfl 54 _ (Blk.new _ _ _) (by simpa using hi54) HO17.out hone ?_)
    | (refine wpList_load_mid rfl 54 (.tmp 4) rfl w1.heap.size 0 rfl cs _ hrg Try.underlying54 rfl hi54 ?_)
    | (refine wpList_store_row rfl 54 (.tmp 2) (.tmp 22) rfl (w.heap.size + 1) cs.toArray rfl rfl 54 _ hT2 (by simpa using hi54) HO17.out hone ?_))
  generalize (w1.alloc (.cells zRec 54)).setRow w1.heap.size cs.toArray = w2 at *
  have hx9 := setRow_blk (cells := cs.toArray) hT2
  have hg9 := setRow_grown w2 (w.heap.size + 1) cs.toArray
  generalize w2.setRow (w.heap.size + 1) cs.toArray = w3 at *
  have ho2 : Onl (fun k => k = gR) w w2 := ho1.tr (Onl.of_below (P := fun k => k = gR) hbw) (fun _ _ h => h)
  have ho3 : Onl (fun k => k = gR) w w3 := ho2.tr (Onl.of_grown hg9) (fun k hk e => by omega)
  have hR2 : Blk w2 gR 141 _ := Blk.old hR1 hbw
  have hR3 : Blk w3 gR 141 _ := (hg9.block gR hR2.lt (fun e => by injection e with e; omega)).trans hR2
  have hS2 : Blk w2 gS 119 _ := Blk.old hsect hbw
  have hS3 : Blk w3 gS 119 _ := (hg9.block gS hS2.lt (fun e => by injection e with e; exact hT2.ne_ hS2 (by decide) e.symm)).trans hS2
  rw [HCS.out] at hx9
  have hxc := hx9.cell
  have hlast : w.heap.size ≤ gS := by simp at hle; omega
  clear hx9 hg9 ho2 hT2 hbx hbw hrg hcn hR1 hsect ho1 hR2 hS2 hle
  exact bodyPost_ret (v := .tuple #[.agg (rRecCells r gS pos r.front.length (pos + r.front.length)), .nilIface]) (by simp [results, Try.results88, go_sem, hxc]) rfl
    ⟨gS, rfl, hS3, hlast, hR3, ho3⟩
/-- The end of an archive: a zero record and EOF. -/
def Ended (P : Nat → Prop) (w : World) (e : Ending) (w' : World) : Prop := e = .returned (.tuple #[.agg zRec, EOFV]) ∧ Onl P w w'
set_option maxRecDepth 100000 in
set_option maxHeartbeats 1000000 in
theorem eof_end (r : Rec) (hs : r.Small) (hne : r.name = trailer) (gR g b off B n c pos : Nat) (d rest : List UInt8) (w : World) (hR : Rst w gR 71 (.pointer (some ⟨g, 0, none⟩)) pos) (hS : Src w g b off B n c d) (hBR : B ≤ gR) (hp4 : pos % 4 = 0) (hd : d.drop pos = r.enc ++ rest) :
    Calls Try.prog 88 #[.agg #[.iface 139 (.pointer (some ⟨gR, 0, none⟩))]] w (Ended (fun k => k = gR) w) := by
  have hgl := hR.lt
  have hcall := fun W (hW : Below w.heap.size w W) => rrec_any r hs gR g b off B n c pos d rest W (Blk.old hR hW) (hS.below hW (by omega)).1 (hS.below hW (by omega)).2.1 hS.2.2.1 hS.2.2.2 hBR hp4 hd
  have HC := Lib.hid hcall
  have hmt := fun W => m139 ⟨gR, 0, none⟩ W
  have hname : (r.name == [84, 82, 65, 73, 76, 69, 82, 33, 33, 33]) = true := by
    rw [hne]
    rfl
  have HD := Lib.hid hd
  clear hcall hd hne hp4
  go_enter Try.func88, Try.ntmps88
  go_wp2_with fail
  refine (HC.out _ (((Below.refl _ _).alloc (Nat.le_refl _) _).alloc (by simp) _)).mono ?_
  rintro e w1 ⟨gS, he, hsect, hle, hR1, ho1⟩
  have hT1 : Blk w1 (w.heap.size + 1) 54 zRec := ho1.blk (Blk.new_at _ 54 _ (by simp)) (by omega)
  have ho1 : Onl (fun k => k = gR) w w1 := (((Onl.refl _ w).alloc _).alloc _).tr ho1 (fun _ _ h => h)
  obtain ⟨cs, hcs⟩ : ∃ cs : List Value, cs.toArray = rRecCells r gS pos r.front.length (pos + r.front.length) := ⟨(rRecCells r gS pos r.front.length (pos + r.front.length)).toList, rfl⟩
  rw [← hcs] at he
  have hone : cs.toArray.all (·.oneCell') = true := by rw [hcs]; exact rcells_one _ _ _ _ _
  have hl17 : cs.length = 17 := by
    have := congrArg Array.size hcs
    simpa using this
  have hi54 : (Try.prog.info? 54).map (·.size) = some cs.length := by rw [hl17]; exact info54
  subst he
  have hbx : Blk ((w1.alloc (.cells zRec 54)).setRow w1.heap.size cs.toArray) w1.heap.size 54 cs.toArray := setRow_blk (Blk.new _ _ _)
  have hbw : Below w1.heap.size w1 ((w1.alloc (.cells zRec 54)).setRow w1.heap.size cs.toArray) := ((Below.refl _ _).alloc (Nat.le_refl _) _).grown (setRow_grown _ _ _) (by simp) (fun j hj => by cases hj; exact Nat.le_refl _)
  have hrg := hbx.range
  have hT2 := hT1.old hbw
  have hcn : ((w1.alloc (.cells zRec 54)).setRow w1.heap.size cs.toArray).cell? ⟨w1.heap.size, 13, none⟩ = some (.string ⟨r.name.toArray⟩) := by rw [hbx.cell, hcs]; rfl
  have hold17 : zRec.size = cs.toArray.size := by rw [show cs.toArray.size = 17 by simpa using hl17]; rfl
  have HO17 := Lib.hid hold17
  have hsz1 := ho1.size
  have HCS := Lib.hid hcs
  clear hcs hl17 hT1 HC hold17
  have hzone : zRec.all (·.oneCell') = true := by simp [Value.oneCell']
  go_wp2_with (first
    | (refine wpList_store_row rfl 54 (.tmp 4) (.tmp 10) rfl w1.heap.size cs.toArray rfl rfl 54 _ (Blk.new _ _ _) (by simpa using hi54) HO17.out hone ?_)
    | (refine wpList_store_row rfl 54 (.tmp 2) (.tmp 20) rfl (w.heap.size + 1) zRec rfl rfl 54 _ hT2 info54 rfl hzone ?_))
  generalize (w1.alloc (.cells zRec 54)).setRow w1.heap.size cs.toArray = w2 at *
  have hx9 := setRow_blk (cells := zRec) hT2
  have hg9 := setRow_grown w2 (w.heap.size + 1) zRec
  generalize w2.setRow (w.heap.size + 1) zRec = w3 at *
  have ho2 : Onl (fun k => k = gR) w w2 := ho1.tr (Onl.of_below (P := fun k => k = gR) hbw) (fun _ _ h => h)
  have ho3 : Onl (fun k => k = gR) w w3 := ho2.tr (Onl.of_grown hg9) (fun k hk e => by omega)
  have hxc := hx9.cell
  clear hx9 hg9 ho2 hT2 hbx hbw hrg hcn hR1 hsect ho1 hle
  exact bodyPost_ret (v := .tuple #[.agg zRec, EOFV]) (by simp [results, Try.results88, go_sem, hxc]) rfl
    ⟨rfl, ho3⟩
set_option maxRecDepth 100000 in
set_option maxHeartbeats 1000000 in
theorem eof_bad (gR g b off B n c pos : Nat) (d l : List UInt8) (w : World) (hR : Rst w gR 71 (.pointer (some ⟨g, 0, none⟩)) pos) (hS : Src w g b off B n c d) (hBR : B ≤ gR) (hd : (d.drop pos).take 110 = l) (hpl : pos + 110 ≤ n) (hbad : (l.take 6 == magic) = false) :
    Calls Try.prog 88 #[.agg #[.iface 139 (.pointer (some ⟨gR, 0, none⟩))]] w (Erred (fun k => k = gR) w) := by
  have hgl := hR.lt
  have hcall := fun W (hW : Below w.heap.size w W) => rbad_any gR g b off B n c pos d l W (Blk.old hR hW) (hS.below hW (by omega)).1 (hS.below hW (by omega)).2.1 hS.2.2.1 hS.2.2.2 hBR hd hpl hbad
  have HC := Lib.hid hcall
  have hmt := fun W => m139 ⟨gR, 0, none⟩ W
  clear hcall hd hbad
  go_enter Try.func88, Try.ntmps88
  go_wp2_with fail
  refine (HC.out _ (((Below.refl _ _).alloc (Nat.le_refl _) _).alloc (by simp) _)).mono ?_
  rintro e w1 ⟨p, rfl, ho1⟩
  have hT1 : Blk w1 (w.heap.size + 1) 54 zRec := ho1.blk (Blk.new_at _ 54 _ (by simp)) (by omega)
  have ho1 : Onl (fun k => k = gR) w w1 := (((Onl.refl _ w).alloc _).alloc _).tr ho1 (fun _ _ h => h)
  have hzone : zRec.all (·.oneCell') = true := by simp [Value.oneCell']
  have hbw : Below w1.heap.size w1 ((w1.alloc (.cells zRec 54)).setRow w1.heap.size zRec) := ((Below.refl _ _).alloc (Nat.le_refl _) _).grown (setRow_grown _ _ _) (by simp) (fun j hj => by cases hj; exact Nat.le_refl _)
  have hT2 := hT1.old hbw
  have hsz1 := ho1.size
  clear hT1 HC
  go_wp2_with (first
    | (refine wpList_store_row rfl 54 (.tmp 4) (.tmp 10) rfl w1.heap.size zRec rfl rfl 54 _ (Blk.new _ _ _) info54 rfl hzone ?_)
    | (refine wpList_store_row rfl 54 (.tmp 2) (.tmp 14) rfl (w.heap.size + 1) zRec rfl rfl 54 _ hT2 info54 rfl hzone ?_))
  generalize (w1.alloc (.cells zRec 54)).setRow w1.heap.size zRec = w2 at *
  have hx9 := setRow_blk (cells := zRec) hT2
  have hg9 := setRow_grown w2 (w.heap.size + 1) zRec
  generalize w2.setRow (w.heap.size + 1) zRec = w3 at *
  have ho2 : Onl (fun k => k = gR) w w2 := ho1.tr (Onl.of_below (P := fun k => k = gR) hbw) (fun _ _ h => h)
  have ho3 : Onl (fun k => k = gR) w w3 := ho2.tr (Onl.of_grown hg9) (fun k hk e => by omega)
  have hxc := hx9.cell
  clear hx9 hg9 ho2 hT2 hbw ho1
  exact bodyPost_ret (v := .tuple #[.agg zRec, .iface 109 (.pointer p)]) (by simp [results, Try.results88, go_sem, hxc]) rfl
    ⟨p, rfl, ho3⟩
end Go.Proofs.Ytcecfjblgakfeaa
