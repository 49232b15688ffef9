/- Each record is read up to the end. -/
import Derived.Test.YtcecfjblgakfeaaP10
namespace Go.Proofs.Ytcecfjblgakfeaa
open Go.RowKit
theorem m143 (v : Value) (w : World) : (method 292 143 (.agg #[v]) "ReadRecord").run Try.prog w = .ok (88, .agg #[v]) w := by kernel_rfl
theorem n143 (v : Value) (w : World) : (nilAhead 292 143 (.agg #[v]) "ReadRecord").run Try.prog w = .ok (some false) w := by kernel_rfl
theorem err_eof (a : Option Addr) (w : World) : (binOp .eql 57 (.iface 109 (.pointer a)) EOFV).run Try.prog w = .ok (.bool false) w := by kernel_rfl
/-- Where a record that was read has its data. -/
def GotOk (w : World) (g : Nat) (d : List UInt8) (x : Got) : Prop := Sect w x.g g x.f x.r.data.length ∧ (d.drop x.f).take x.r.data.length = x.r.data ∧ x.f + x.r.data.length ≤ d.length
theorem GotOk.keep {w w' : World} {g : Nat} {d : List UInt8} {x : Got} (h : GotOk w g d x) (hb : w'.heap[x.g]? = w.heap[x.g]?) : GotOk w' g d x := ⟨hb.trans h.1, h.2⟩
/-- How the records end: with the trailer, or with what is none. -/
def Tail (bad : Bool) (tail : List UInt8) : Prop := (bad = false ∧ ∃ tl : Rec, ∃ rest, tl.Small ∧ tl.name = trailer ∧ tail = tl.enc ++ rest) ∨ (bad = true ∧ 110 ≤ tail.length ∧ (tail.take 6 == magic) = false)
/-- What the end of the records comes to at EOFReader. -/
def Last (bad : Bool) (P : Nat → Prop) (w : World) (e : Ending) (w' : World) : Prop := (bad = false ∧ Ended P w e w') ∨ (bad = true ∧ Erred P w e w')
theorem eof_last (bad : Bool) (tail : List UInt8) (ht : Tail bad tail) (gR g b off B n c pos : Nat) (d : List UInt8) (w : World) (hR : Rst w gR 71 (.pointer (some ⟨g, 0, none⟩)) pos) (hS : Src w g b off B n c d) (hBR : B ≤ gR) (hp4 : pos % 4 = 0) (hd : d.drop pos = tail) :
    Calls Try.prog 88 #[.agg #[.iface 139 (.pointer (some ⟨gR, 0, none⟩))]] w (Last bad (fun k => k = gR) w) := by
  rcases ht with ⟨rfl, tl, rest, h1, h2, h3⟩ | ⟨rfl, h1, h2⟩
  · exact (eof_end tl h1 h2 gR g b off B n c pos d rest w hR hS hBR hp4 (by rw [hd, h3])).mono fun e w' h => .inl ⟨rfl, h⟩
  · have hn : d.length = n := by have := hS.2.1.1; rw [bv_len] at this; omega
    have hl : tail.length = n - pos := by rw [← hd, List.length_drop, hn]
    refine (eof_bad gR g b off B n c pos d (tail.take 110) w hR hS hBR (by rw [hd]) (by omega) ?_).mono fun e w' h => .inr ⟨rfl, h⟩
    rw [List.take_take]
    exact h2
/-- The reader's place. -/
def posAt (w : World) (gR : Nat) : Nat := match w.cell? ⟨gR, 2, none⟩ with | some (.int _ z) => z.toNat | _ => 0
theorem Rst.pos {w : World} {gR : Nat} {t : TypeId} {v : Value} {pos : Nat} (h : Rst w gR t v pos) : posAt w gR = pos := by
  have : w.cell? ⟨gR, 2, none⟩ = some (.int .i64 pos) := by rw [h.cell]; rfl
  simp [posAt, this]
/-- What the reading of each record comes to. -/
def Each (bad : Bool) (rs : List Rec) (gR gF g : Nat) (d : List UInt8) (base : Nat) (w : World) (e : Ending) (w' : World) : Prop :=
  (∃ er, e = .returned er ∧ ((bad = false ∧ er = .nilIface) ∨ (bad = true ∧ ∃ p, er = .iface 109 (.pointer p)))) ∧
    ∃ v xs, Blk w' gF 48 #[v] ∧ Own w' base 54 17 v rs.length (fCells xs) ∧ xs.map (·.r) = rs ∧ (∀ x ∈ xs, GotOk w' g d x) ∧ Onl (fun k => k = gR ∨ k = gF) w w'
set_option maxRecDepth 100000 in
set_option maxHeartbeats 4000000 in
theorem foreach_any (bad : Bool) (rs : List Rec) (tail : List UInt8) (ht : Tail bad tail) (hsm : ∀ r ∈ rs, r.Small) (hnt : ∀ r ∈ rs, r.name ≠ trailer) (hn20 : rs.length ≤ 20) (gR gF g b off B n c : Nat) (d : List UInt8) (hd : d = encs rs ++ tail) (w : World)
    (hR : Rst w gR 71 (.pointer (some ⟨g, 0, none⟩)) 0) (hS : Src w g b off B n c d) (hBR : B ≤ gR) (hBF : B ≤ gF) (hF : Blk w gF 48 #[.slice none 0 0]) :
    Calls Try.prog 40 #[.iface 143 (.agg #[.iface 139 (.pointer (some ⟨gR, 0, none⟩))]), .func (.func 41) #[] #[.pointer (some ⟨gF, 0, none⟩)]] w (Each bad rs gR gF g d w.heap.size w) := by
  have hgl := hR.lt
  have hFl := hF.lt
  have hgF : gR ≠ gF := hR.ne_ hF (by decide)
  have hg1 : g ≠ gR := hS.1.ne_ hR (by decide)
  have hg2 : g ≠ gF := hS.1.ne_ hF (by decide)
  have hmt := fun W => m143 (.iface 139 (.pointer (some ⟨gR, 0, none⟩))) W
  have HGF := Lib.hid hgF
  have HG1 := Lib.hid hg1
  have HG2 := Lib.hid hg2
  have HD := Lib.hid hd
  have HT := Lib.hid ht
  clear hd ht hgF hg1 hg2
  go_enter Try.func40, Try.ntmps40
  go_wp2
  go_loopw [] (fun wr => ∃ (k : Nat) (v : Value) (xs : List Got), k ≤ rs.length ∧ Rst wr gR 71 (.pointer (some ⟨g, 0, none⟩)) (encs (rs.take k)).length ∧ Blk wr gF 48 #[v] ∧ Own wr w.heap.size 54 17 v k (fCells xs) ∧ Hid (xs.map (·.r) = rs.take k) ∧ (∀ x ∈ xs, GotOk wr g d x) ∧ Onl (fun k => k = gR ∨ k = gF) w wr)
    (fun wr => 1000000 - posAt wr gR)
  case atStart => exact ⟨0, _, [], Nat.zero_le _, by simpa [encs] using hR, hF, Own.nil_ _ _ _ _, Lib.hid rfl, fun x hx => (List.not_mem_nil hx).elim, Onl.refl _ _⟩
  case round =>
    obtain ⟨k, v, xs, hk, hR1, hF1, hown, hxs, hok, ho⟩ := hrel
    obtain ⟨pos, hpos⟩ : ∃ pos, pos = (encs (rs.take k)).length := ⟨_, rfl⟩
    have hp4 : pos % 4 = 0 := by rw [hpos]; exact encs_mod _
    have hS1 : Src wr g b off B n c d := hS.onl ho (by omega) (fun e => e.elim HG1.out HG2.out) (fun k _ e => by omega)
    have hdr : d.drop pos = encs (rs.drop k) ++ tail := by
      rw [HD.out, hpos]
      have : encs rs = encs (rs.take k) ++ encs (rs.drop k) := by
        unfold encs
        rw [← List.flatMap_append, List.take_append_drop]
      rw [this, List.append_assoc, List.drop_left]
    rw [← hpos] at hR1
    have hzw := ho.size
    by_cases hlt : k < rs.length
    · obtain ⟨r, hr⟩ : ∃ r, rs[k]? = some r := ⟨rs[k], List.getElem?_eq_getElem hlt⟩
      have hrm := List.mem_of_getElem? hr
      obtain ⟨rest, hrest⟩ : ∃ rest, d.drop pos = r.enc ++ rest := ⟨encs (rs.drop (k + 1)) ++ tail, by
        rw [hdr, List.drop_eq_getElem_cons hlt, ← List.append_assoc]
        have : rs[k] = r := by
          have := List.getElem?_eq_getElem hlt
          rw [this] at hr
          injection hr
        rw [this]
        rfl⟩
      have hcall := eof_rec r (hsm r hrm) (hnt r hrm) gR g b off B n c pos d rest wr hR1 hS1 hBR hp4 hrest
      have HC := Lib.hid hcall
      have HR := Lib.hid hrest
      have HRK := Lib.hid hr
      have HPOS := Lib.hid hpos
      clear hcall hrest hr hdr hp4 hpos
      go_wp2_with fail
      refine HC.out.mono ?_
      rintro e w1 ⟨gS, he, hsect, hle, hR2, ho1⟩
      obtain ⟨cs, hcs⟩ : ∃ cs : List Value, cs.toArray = rRecCells r gS pos r.front.length (pos + r.front.length) := ⟨(rRecCells r gS pos r.front.length (pos + r.front.length)).toList, rfl⟩
      rw [← hcs] at he
      have hone : cs.toArray.all (·.oneCell') = true := by rw [hcs]; exact rcells_one _ _ _ _ _
      have hl17 : cs.length = 17 := by
        have := congrArg Array.size hcs
        simpa using this
      have hi54 : (Try.prog.info? 54).map (·.size) = some cs.length := by rw [hl17]; exact info54
      subst he
      have hbx : Blk ((w1.alloc (.cells zRec 54)).setRow w1.heap.size cs.toArray) w1.heap.size 54 cs.toArray := setRow_blk (Blk.new _ _ _)
      have hbw : Below w1.heap.size w1 ((w1.alloc (.cells zRec 54)).setRow w1.heap.size cs.toArray) := ((Below.refl _ _).alloc (Nat.le_refl _) _).grown (setRow_grown _ _ _) (by simp) (fun j hj => by cases hj; exact Nat.le_refl _)
      have hrg := hbx.range
      have hold17 : zRec.size = cs.toArray.size := by rw [show cs.toArray.size = 17 by simpa using hl17]; rfl
      have HO17 := Lib.hid hold17
      have HCS := Lib.hid hcs
      have he1 := fun W => nil_eof W
      clear hcs hl17 HC hold17
      go_wp2_with (first
        | (refine wpList_store_row rfl 54 (.tmp 5) (.tmp 11) rfl w1.heap.size cs.toArray rfl rfl 54 _ (Blk.new _ _ _) (by simpa using hi54) HO17.out hone ?_)
        | (refine wpList_load_mid rfl 54 (.tmp 5) rfl w1.heap.size 0 rfl cs _ hrg Try.underlying54 rfl hi54 ?_))
      have hF2 := ho1.blk hF1 (fun e => HGF.out e.symm)
      have hown2 : Own w1 w.heap.size 54 17 v k (fCells xs) := hown.keep fun q hq => ho1.2.2.2.2 q (hown.lt q hq).2 (fun e => hown.blk_ne hR1 (by decide) (by rw [hq, e]))
      have hok2 : ∀ x ∈ xs, GotOk w1 g d x := fun x hx => (hok x hx).keep (ho1.2.2.2.2 x.g (hok x hx).1.lt (fun e => (hok x hx).1.ne_ hR1 (by decide) e))
      have ho2 : Onl (fun k => k = gR ∨ k = gF) w w1 := ho.tr ho1 (fun _ _ h => .inl h)
      have hz1 := ho1.size
      generalize (w1.alloc (.cells zRec 54)).setRow w1.heap.size cs.toArray = w2 at *
      have hF3 := hF2.old hbw
      have hown3 := hown2.old hbw
      have hok3 : ∀ x ∈ xs, GotOk w2 g d x := fun x hx => (hok2 x hx).keep (hbw.block x.g (hok2 x hx).1.lt)
      have hS3 : Sect w2 gS g (pos + r.front.length) r.data.length := hsect.old hbw
      have hR3 : Rst w2 gR 71 (.pointer (some ⟨g, 0, none⟩)) (pos + r.enc.length) := Blk.old hR2 hbw
      have ho3 : Onl (fun k => k = gR ∨ k = gF) w w2 := ho2.tr (Onl.of_below (P := fun k => k = gR ∨ k = gF) hbw) (fun _ _ h => h)
      have hz3 := ho3.size
      rw [HCS.out]
      refine (gather_any r gS pos r.front.length (pos + r.front.length) gF w.heap.size k (k + 1) v xs _ rfl (Lib.hid rfl) (by omega) w2 hF3 hown3 hz3).mono ?_
      rintro e w3 ⟨rfl, v3, hF4, hown4, ho4⟩
      have hR4 : Rst w3 gR 71 (.pointer (some ⟨g, 0, none⟩)) (pos + r.enc.length) := ho4.blk hR3 (fun e => e.elim (fun e => HGF.out e) (fun e => hown3.blk_ne hR3 (by decide) e))
      have hS4 : Sect w3 gS g (pos + r.front.length) r.data.length := ho4.blk hS3 (fun e => e.elim (fun e => hS3.ne_ hF3 (by decide) e) (fun e => hown3.blk_ne hS3 (by decide) e))
      have hok4 : ∀ x ∈ xs, GotOk w3 g d x := fun x hx => (hok3 x hx).keep (ho4.2.2.2.2 x.g (hok3 x hx).1.lt (fun e => e.elim (fun e => (hok3 x hx).1.ne_ hF3 (by decide) e) (fun e => hown3.blk_ne (hok3 x hx).1 (by decide) e)))
      have ho5 : Onl (fun k => k = gR ∨ k = gF) w w3 := ho3.tr ho4 (fun q hq e => e.elim .inr (fun e => by have := (hown3.lt q e).1; omega))
      have hn : d.length = n := by have := hS.2.1.1; rw [bv_len] at this; omega
      have hpl : pos + r.enc.length ≤ n := by
        have := congrArg List.length HR.out
        rw [List.length_drop, List.length_append] at this
        have := r.enc_len
        have := r.front_len
        omega
      have hn9 := hS.2.2.2
      have hen : 0 < r.enc.length := by have := r.enc_len; have := r.front_len; omega
      have hdat : (d.drop (pos + r.front.length)).take r.data.length = r.data := by rw [← List.drop_drop, HR.out, enc_data]
      have hfe : r.front.length + r.data.length ≤ r.enc.length := by have := r.enc_len; omega
      have hp1 := hR1.pos
      have hp2 := hR4.pos
      have htk : (encs (rs.take (k + 1))).length = pos + r.enc.length := by rw [List.take_add_one, HRK.out, HPOS.out]; simp [encs]
      have hmap : Hid ((xs ++ [(⟨r, gS, pos, r.front.length, pos + r.front.length⟩ : Got)]).map (·.r) = rs.take (k + 1)) := Lib.hid (by rw [List.map_append, hxs.out, List.take_add_one, HRK.out]; rfl)
      have HP1 := Lib.hid hp1
      have HP2 := Lib.hid hp2
      have HTK := Lib.hid htk
      have HN := Lib.hid hn
      have HDAT := Lib.hid hdat
      clear hp1 hp2 htk hn hdat
      go_wp2
      refine ⟨⟨k + 1, v3, _, hlt, by rw [HTK.out]; exact hR4, hF4, hown4, hmap, ?_, ho5⟩, by rw [HP1.out, HP2.out]; omega⟩
      intro x hx
      rcases List.mem_append.1 hx with hx | hx
      · exact hok4 x hx
      · rw [List.mem_singleton.1 hx]
        exact ⟨hS4, HDAT.out, by show pos + r.front.length + r.data.length ≤ d.length; rw [HN.out]; omega⟩
    · obtain rfl : k = rs.length := by omega
      rw [List.take_length] at hxs
      rw [List.drop_length] at hdr
      have hcall := eof_last bad tail HT.out gR g b off B n c pos d wr hR1 hS1 hBR hp4 (by simpa [encs] using hdr)
      have HC := Lib.hid hcall
      clear hcall hdr hp4 hpos
      go_wp2_with fail
      refine HC.out.mono ?_
      have hzone : zRec.all (·.oneCell') = true := by simp [Value.oneCell']
      have he1 := fun W => eof_eql W
      have he2 := fun a W => err_eof a W
      rintro e w1 (⟨hbd, rfl, ho1⟩ | ⟨hbd, p, rfl, ho1⟩)
      · have hF2 := ho1.blk hF1 (fun e => HGF.out e.symm)
        have hown2 : Own w1 w.heap.size 54 17 v rs.length (fCells xs) := hown.keep fun q hq => ho1.2.2.2.2 q (hown.lt q hq).2 (fun e => hown.blk_ne hR1 (by decide) (by rw [hq, e]))
        have hok2 : ∀ x ∈ xs, GotOk w1 g d x := fun x hx => (hok x hx).keep (ho1.2.2.2.2 x.g (hok x hx).1.lt (fun e => (hok x hx).1.ne_ hR1 (by decide) e))
        have ho2 : Onl (fun k => k = gR ∨ k = gF) w w1 := ho.tr ho1 (fun _ _ h => .inl h)
        have hbw : Below w1.heap.size w1 ((w1.alloc (.cells zRec 54)).setRow w1.heap.size zRec) := ((Below.refl _ _).alloc (Nat.le_refl _) _).grown (setRow_grown _ _ _) (by simp) (fun j hj => by cases hj; exact Nat.le_refl _)
        go_wp2_with (refine wpList_store_row rfl 54 (.tmp 5) (.tmp 11) rfl w1.heap.size zRec rfl rfl 54 _ (Blk.new _ _ _) info54 rfl hzone ?_)
        go_ret
        exact ⟨⟨_, rfl, .inl ⟨hbd, rfl⟩⟩, v, xs, hF2.old hbw, hown2.old hbw, hxs.out, fun x hx => (hok2 x hx).keep (hbw.block x.g (hok2 x hx).1.lt), ho2.tr (Onl.of_below (P := fun k => k = gR ∨ k = gF) hbw) (fun _ _ h => h)⟩
      · have hF2 := ho1.blk hF1 (fun e => HGF.out e.symm)
        have hown2 : Own w1 w.heap.size 54 17 v rs.length (fCells xs) := hown.keep fun q hq => ho1.2.2.2.2 q (hown.lt q hq).2 (fun e => hown.blk_ne hR1 (by decide) (by rw [hq, e]))
        have hok2 : ∀ x ∈ xs, GotOk w1 g d x := fun x hx => (hok x hx).keep (ho1.2.2.2.2 x.g (hok x hx).1.lt (fun e => (hok x hx).1.ne_ hR1 (by decide) e))
        have ho2 : Onl (fun k => k = gR ∨ k = gF) w w1 := ho.tr ho1 (fun _ _ h => .inl h)
        have hbw : Below w1.heap.size w1 ((w1.alloc (.cells zRec 54)).setRow w1.heap.size zRec) := ((Below.refl _ _).alloc (Nat.le_refl _) _).grown (setRow_grown _ _ _) (by simp) (fun j hj => by cases hj; exact Nat.le_refl _)
        go_wp2_with (refine wpList_store_row rfl 54 (.tmp 5) (.tmp 11) rfl w1.heap.size zRec rfl rfl 54 _ (Blk.new _ _ _) info54 rfl hzone ?_)
        go_ret
        exact ⟨⟨_, rfl, .inr ⟨hbd, p, rfl⟩⟩, v, xs, hF2.old hbw, hown2.old hbw, hxs.out, fun x hx => (hok2 x hx).keep (hbw.block x.g (hok2 x hx).1.lt), ho2.tr (Onl.of_below (P := fun k => k = gR ∨ k = gF) hbw) (fun _ _ h => h)⟩
end Go.Proofs.Ytcecfjblgakfeaa
