/- Records that come in are made into the package's own and written. -/
import Derived.Test.YtcecfjblgakfeaaF14
namespace Go.Proofs.Ytcecfjblgakfeaa
open Go.RowKit
/-- A record that comes in: its numbers, and where its data lie. -/
structure In where
  r : Rec
  A : Option Addr
  c : Nat
def inCells (rs : List In) : List Value := rs.flatMap fun x => (recCells x.r x.A x.c).toList
theorem inCells_at : ∀ (rs : List In) (k : Nat) (x : In), rs[k]? = some x → ∀ j, j < 12 → (inCells rs)[k * 12 + j]? = (recCells x.r x.A x.c)[j]?
  | [], k, x, h, _, _ => by simp at h
  | q :: rs, 0, x, h, j, hj => by
    simp only [List.getElem?_cons_zero, Option.some.injEq] at h
    subst h
    have : inCells (q :: rs) = (recCells q.r q.A q.c).toList ++ inCells rs := rfl
    rw [this, Nat.zero_mul, Nat.zero_add, List.getElem?_append_left (by simpa using hj)]
    simp
  | q :: rs, k + 1, x, h, j, hj => by
    have : inCells (q :: rs) = (recCells q.r q.A q.c).toList ++ inCells rs := rfl
    rw [this, List.getElem?_append_right (by simp; omega)]
    have e : (k + 1) * 12 + j - (recCells q.r q.A q.c).toList.length = k * 12 + j := by simp; omega
    rw [e]
    exact inCells_at rs k x (by simpa using h) j hj
theorem Own.fr {w w' : World} {base base' e size n : Nat} {v : Value} {xs : List Value} {S : List TypeId} (h : Own w base e size v n xs) (hf : Fr base' S w w') (he : e ∉ S) : Own w' base e size v n xs :=
  h.keep fun g hg => by
    obtain ⟨cur, fr, hc⟩ := h.type g hg
    rw [hc]
    exact hf.2.2.2.2 g _ hc (.inr fun c t fr' e' => by injection e' with _ h2; rw [← h2]; exact he)
/-- A reader whose data are the call's own. -/
def HeldO (w : World) (base : Nat) (r : Rec) (g : Nat) : Prop :=
  ∃ A c, Blk w g 73 #[.slice A r.data.length c, .int .i64 0] ∧ Own w base 5 1 (.slice A r.data.length c) r.data.length (bv r.data)
theorem HeldO.fr {w w' : World} {base base' : Nat} {S : List TypeId} {r : Rec} {g : Nat} (h : HeldO w base r g) (hf : Fr base' S w w') (h1 : 73 ∉ S) (h2 : 5 ∉ S) : HeldO w' base r g := by
  obtain ⟨A, c, h3, h4⟩ := h
  exact ⟨A, c, hf.blk h3 (.inr h1), h4.fr hf h2⟩
theorem HeldO.held {w : World} {base : Nat} {r : Rec} {g : Nat} (h : HeldO w base r g) : Held w w.heap.size r g ∧ g < w.heap.size := by
  obtain ⟨A, c, h3, h4⟩ := h
  exact ⟨⟨A, c, h3, h4.rd, h4.cap⟩, h3.lt⟩
theorem a54 : (Try.prog.info? 54).map (fun i => (i.zero, i.size, i.bytes)) = some (some (.agg #[.nilIface, .int .u64 0, .int .u64 0, .int .u64 0, .int .u64 0, .int .u64 0, .int .u64 0, .int .u64 0, .int .u64 0, .int .u64 0, .int .u64 0, .int .u64 0, .int .u64 0, .string ⟨#[]⟩, .int .i64 0, .int .u64 0, .int .i64 0]), 17, 152) := by kernel_rfl
/-- append of one record as a step of a region that draws its order. -/
theorem step_app54 {ops : Array Oper} {o : Oper} {a : Act} {K : Act → World → Prop} {Q : Exit → Act → World → Prop} {E : Prop} (w : World) (hgd : o.guard = none) (s x : Operand)
    (ho : o.op = .call { callee := .builtin .append, args := #[s, x], argTypes := #[48, 48] })
    (base : Nat) (v : Value) (ps : List (Rec × Nat)) (p : Rec × Nat) (n : Nat) (hs : a.eval s = v) (hown : Own w base 54 17 v n (recsCells ps))
    (B : Nat) (A : Option Addr) (c : Nat) (hx : a.eval x = .slice A 1 c) (hr : Rd w B 17 A 1 (recsCells [p])) (hlen : n ≤ 1000) (hbase : base ≤ w.heap.size)
    (h : ∀ v' w', Own w' base 54 17 v' (n + 1) (recsCells (ps ++ [p])) → w.grownBy w' v.ownBlock → (∀ g, v'.ownBlock = some g → v.ownBlock = some g ∨ w.heap.size ≤ g) → K (a.put o.dst v') w') :
    if Region.wanted o (yielded ops a.tmps) = true then Oper.wp Try.prog o a w K Q else E := by
  have hw : Region.wanted o (yielded ops a.tmps) = true := by simp [Region.wanted, hgd]
  rw [if_pos hw]
  obtain ⟨i0, hi, hz0, hz1, hz2⟩ := info_parts a54
  refine wp_app w s x 48 ho base 54 i0 _ 17 152 Try.underlying48 hi hz0 hz1 hz2 rfl (by decide) v n (recsCells ps) hs hown B A 1 c (recsCells [p]) hx hr (fun u hu => ?_) (by unfold maxLen; omega) (by omega) hbase fun v' w' h1 h2 h3 => h v' w' ?_ h2 h3
  · simp only [recsCells, List.flatMap_cons, List.flatMap_nil, List.append_nil] at hu
    exact (Array.all_eq_true_iff_forall_mem.1 (cells_one p.1 p.2)) u (by simpa using hu)
  · have e : recsCells (ps ++ [p]) = recsCells ps ++ recsCells [p] := by simp [recsCells]
    rw [e]
    exact h1
theorem own_empty (w : World) : Own (w.alloc (.cells #[] 5)) w.heap.size 5 1 (.slice (some ⟨w.heap.size, 0, none⟩) 0 0) 0 (bv []) :=
  ⟨rfl, .inr ⟨w.heap.size, 0, #[], (0, 0), rfl, Nat.le_refl _, Nat.le_refl _, by simp [maxLen], Blk.new w 5 #[], fun j hj => by simp at hj, rfl, rfl⟩⟩
theorem new_rec (w : World) (r : Rec) (g : Nat) : Rd (w.alloc (.cells (cRecCells r g) 54)) (w.heap.size + 1) 17 (some ⟨w.heap.size, 0, none⟩) 1 (recsCells [(r, g)]) :=
  ⟨by simp [recsCells], fun _ => ⟨w.heap.size, 0, rfl, by omega, fun j u hj => by rw [Nat.zero_add, (Blk.new w 54 (cRecCells r g)).cell]; simpa [recsCells] using hj⟩⟩
theorem info44 : (Try.prog.info? 44).map (·.size) = some 12 := by kernel_rfl
theorem in_one (x : In) : (recCells x.r x.A x.c).all (·.oneCell') = true := by simp [Value.oneCell']
def Formatted (gb gok : Nat) (L : List UInt8) (w : World) (e : Ending) (w' : World) : Prop :=
  e = .returned (.tuple #[]) ∧ ∃ w1 A1 c1, Below w.heap.size w w1 ∧ Own w1 w.heap.size 5 1 (.slice A1 L.length c1) L.length (bv L) ∧ w' = (w1.setCell ⟨gb, 0, none⟩ (.slice A1 L.length c1)).setCell ⟨gok, 0, none⟩ (.bool true)
set_option maxRecDepth 100000 in
set_option maxHeartbeats 1000000 in
theorem format1_any (rs : List In) (c gl gb gok : Nat) (vb vo : Value) (A : Option Addr) (hn20 : rs.length ≤ 20) (hsm : ∀ x ∈ rs, x.r.Small) (hpl : ∀ x ∈ rs, Plain x.r.name) (hnd : (rs.map fun x => x.r.name).Nodup) (hnt : ∀ x ∈ rs, x.r.name ≠ trailer) (L : List UInt8) (hL : Hid (L = encs (rs.map (·.r)) ++ trailerRec.enc)) (w : World)
    (hd : ∀ x ∈ rs, Rd w w.heap.size 1 x.A x.r.data.length (bv x.r.data)) (hr : Rd w w.heap.size 12 A rs.length (inCells rs))
    (hl : Blk w gl 22 #[.slice A rs.length c]) (hb : Blk w gb 28 #[vb]) (hok : Blk w gok 4 #[vo]) :
    Calls Try.prog 23 #[.pointer (some ⟨gl, 0, none⟩), .pointer (some ⟨gb, 0, none⟩), .pointer (some ⟨gok, 0, none⟩)] w (Formatted gb gok L w) := by
  have hcl : w.cell? ⟨gl, 0, none⟩ = some (.slice A rs.length c) := by rw [hl.cell]; rfl
  go_enter Try.func23, Try.ntmps23
  go_wp2
  go_loopw [3, 10] (fun v i wr => ∃ (k : Nat) (ps : List (Rec × Nat)), k ≤ rs.length ∧ i = .int .i64 k ∧ ps.map (·.1) = (rs.take k).map (·.r) ∧ Own wr w.heap.size 54 17 v k (recsCells ps) ∧ (∀ p ∈ ps, HeldO wr w.heap.size p.1 p.2) ∧ Below w.heap.size w wr)
    (fun _ i _ => rs.length - (RowKit.intOf i).toNat)
  case atStart => exact ⟨0, [], Nat.zero_le _, rfl, rfl, Own.nil_ _ _ _ _, fun p hp => (List.not_mem_nil hp).elim, Below.refl _ _⟩
  case round =>
    obtain ⟨k, ps, hk, rfl, hps, hown, hh, hbel⟩ := hrel
    by_cases hlt : k < rs.length
    · obtain ⟨b, off, rfl, hbb, hc⟩ := (hr.below hbel).at_ hlt
      obtain ⟨x, hx⟩ : ∃ x, rs[k]? = some x := ⟨rs[k], List.getElem?_eq_getElem hlt⟩
      have hxm : x ∈ rs := List.mem_of_getElem? hx
      obtain ⟨cs, hcs⟩ : ∃ cs, cs = (recCells x.r x.A x.c).toList := ⟨_, rfl⟩
      have hrg : wr.rangeAt b (off + k * 12) cs := fun j v hv => by
        have hj : j < 12 := by
          have := (List.getElem?_eq_some_iff.1 hv).1
          rw [hcs] at this
          simpa using this
        rw [hc j hj, inCells_at rs k x hx j hj, ← hv, hcs]
        simp
      have hsz : cs.length = 12 := by rw [hcs]; rfl
      have hi44 : (Try.prog.info? 44).map (·.size) = some cs.length := by rw [hsz]; exact info44
      have hone : cs.toArray.all (·.oneCell') = true := by rw [hcs]; exact in_one x
      have HCS := Lib.hid hcs
      clear hcs hc hbb
      go_wp2_with (first
        | (refine wpList_load_mid rfl 44 (.tmp 12) rfl b (off + k * 12) rfl cs _ hrg Try.underlying44 rfl hi44 ?_)
        | (refine wpList_store_row rfl 44 (.tmp 5) (.tmp 13) rfl wr.heap.size cs.toArray rfl rfl 44 _ (Blk.new _ _ _) (by simpa using hi44) (by simp [hsz]) hone ?_))
      have hbx : Blk ((wr.alloc (.cells #[.int .u64 0, .int .u64 0, .int .u64 0, .int .u64 0, .int .u64 0, .int .u64 0, .int .u64 0, .int .u64 0, .int .u64 0, .int .u64 0, .string ⟨#[]⟩, .slice none 0 0] 44)).setRow wr.heap.size cs.toArray) wr.heap.size 44 cs.toArray := setRow_blk (Blk.new _ _ _)
      have hbw : Below wr.heap.size wr ((wr.alloc (.cells #[.int .u64 0, .int .u64 0, .int .u64 0, .int .u64 0, .int .u64 0, .int .u64 0, .int .u64 0, .int .u64 0, .int .u64 0, .int .u64 0, .string ⟨#[]⟩, .slice none 0 0] 44)).setRow wr.heap.size cs.toArray) := ((Below.refl _ _).alloc (Nat.le_refl _) _).grown (setRow_grown _ _ _) (by simp) (fun j hj => by cases hj; exact Nat.le_refl _)
      clear hrg
      generalize (wr.alloc _).setRow wr.heap.size cs.toArray = w1 at *
      rw [HCS.out] at hbx
      clear HCS hi44 hone hsz
      have hbx : Blk w1 wr.heap.size 44 (recCells x.r x.A x.c) := hbx
      have hbc := hbx.cell
      have hsx := hsm x hxm
      have hdl := hsx.data
      have hw1 : wr.heap.size < w1.heap.size := hbx.lt
      have hwr := hbel.size
      have hv0 : Own (w1.alloc (.cells #[] 5)).drew w1.heap.size 5 1 (.slice (some ⟨w1.heap.size, 0, none⟩) 0 0) 0 (bv []) := (own_empty w1).drew
      have hbx2 : Blk (w1.alloc (.cells #[] 5)).drew wr.heap.size 44 (recCells x.r x.A x.c) := (hbx.alloc _).drew
      have hb12 : Below w1.heap.size w1 (w1.alloc (.cells #[] 5)).drew := below_drewN ((Below.refl _ _).alloc (Nat.le_refl _) _) 1
      have hdx : Rd (w1.alloc (.cells #[] 5)).drew w.heap.size 1 x.A x.r.data.length (bv x.r.data) := (hd x hxm).below (hbel.trans ((hbw.trans (hb12.mono (by omega))).mono hwr))
      have hbc2 := hbx2.cell
      have HW := Lib.hid (hb12.size)
      go_region_held3 (fun w' => ∀ i, w'.cell? ⟨wr.heap.size, i, none⟩ = (recCells x.r x.A x.c)[i]?) (first | exact hbc | exact hbc2 | exact hbc3 | exact hbc4 | exact hbc5 | exact hbc6) (first
        | (refine step_appb _ rfl (.tmp 15) (.tmp 17) rfl w1.heap.size (.slice (some ⟨w1.heap.size, 0, none⟩) 0 0) 0 [] rfl hv0 w.heap.size x.A _ x.c x.r.data rfl hdx x.r.data (Lib.hid rfl) (by omega) HW.out ?_
           intro A2 c2 w2 hown2 hg2 hat2
           have hb2 : Below w1.heap.size w1 w2 := hb12.grown hg2 HW.out (fun j hj => (hv0.lt j hj).1)
           have hbx3 := hbx.below hb2 hw1
           have hbc3 := hbx3.cell)
        | (go_at_call 24
           refine (static_any x.r x.r.data.length c2 A2 _ rfl (by omega) w2).mono ?_
           rintro e w3 ⟨g, rfl, hg3, hb3, hk3⟩
           have hbx4 := hbx3.old hb3
           have hbc4 := hbx4.cell
           have hbx5 := hbx4.alloc (.cells (cRecCells x.r g) 54)
           have hbc5 := hbx5.cell
           have hb14 : Below wr.heap.size wr w3 := hbw.trans ((hb2.mono (by omega)).trans (hb3.mono (by have := hb2.size; omega)))
           have hown5 := (hown.old hb14).alloc (.cells (cRecCells x.r g) 54)
           have hne5 := hown5.blk_ne hbx5 (by decide)
           have hsz5 : w.heap.size ≤ (w3.alloc (.cells (cRecCells x.r g) 54)).heap.size := by have := hb14.size; simp; omega
           have HZ := Lib.hid hsz5
           clear hsz5)
        | (refine step_app54 _ rfl (.tmp 14) (.tmp 47) rfl w.heap.size _ ps (x.r, g) k rfl hown5 (w3.heap.size + 1) (some ⟨w3.heap.size, 0, none⟩) 1 rfl (new_rec w3 x.r g) (by omega) HZ.out ?_
           intro v6 w6 hown6 hg6 hat6
           have hbx6 : Blk w6 wr.heap.size 44 _ := (hg6.block wr.heap.size hbx5.lt (fun e => hne5 e.symm)).trans hbx5
           have hbc6 := hbx6.cell))
      clear hbc hbc2 hbc3 hbc4 hbc5 hbc6
      have hfr3 : Fr w.heap.size [54] w3 w6 := ((Fr.refl _ _ _).alloc _).grown hg6 (own_row hown5 (by simp))
      have hfr : Fr w.heap.size [54] wr w6 := (Fr.of_below hb14).trans hfr3
      have hps6 : (ps ++ [(x.r, g)]).map (·.1) = (rs.take (k + 1)).map (·.r) := by
        rw [List.map_append, hps, List.take_add_one, hx]
        simp
      have HPS := Lib.hid hps6
      clear hps6 hps
      go_wp2
      go_roundw
      case rel =>
        refine ⟨k + 1, ps ++ [(x.r, g)], by omega, by go_num, HPS.out, hown6, ?_, hbel.trans (hfr.below (by omega))⟩
        intro p hp
        rcases List.mem_append.1 hp with hp | hp
        · exact (hh p hp).fr hfr (by decide) (by decide)
        · rw [List.mem_singleton.1 hp]
          exact ⟨A2, c2, hfr3.blk hk3 (.inr (by decide)), ((hown2.old hb3).fr hfr3 (by decide)).more (by omega)⟩
      case measure => simp [RowKit.intOf]; omega
    · obtain rfl : k = rs.length := by omega
      rw [List.take_length] at hps
      have hpl2 : ps.length = rs.length := by
        have := congrArg List.length hps
        simpa using this
      obtain ⟨A', c', rfl, hc', _, hrd⟩ := hown.shape
      have mem : ∀ p ∈ ps, ∃ x ∈ rs, x.r = p.1 := fun p hp => by
        have : p.1 ∈ rs.map (·.r) := by rw [← hps]; exact List.mem_map_of_mem hp
        obtain ⟨x, hx, e⟩ := List.mem_map.1 this
        exact ⟨x, hx, e⟩
      have hnm : (ps.map fun p => p.1.name) = rs.map fun x => x.r.name := by
        have := congrArg (List.map Rec.name) hps
        rw [List.map_map, List.map_map] at this
        exact this
      have hcall : Calls Try.prog 25 #[.slice A' rs.length c', .bool true] wr (Zw L wr) := by
        rw [← hpl2]
        refine zzwrite_any ps c' A' (by omega) (fun p hp => ?_) (fun p hp => ?_) (hnm ▸ hnd) (fun p hp => ?_) L (by rw [hps]; exact hL) wr (fun p hp => (hh p hp).held) (by rw [hpl2]; exact hrd)
        · obtain ⟨x, hx, e⟩ := mem p hp
          exact e ▸ hsm x hx
        · obtain ⟨x, hx, e⟩ := mem p hp
          exact e ▸ hpl x hx
        · obtain ⟨x, hx, e⟩ := mem p hp
          exact e ▸ hnt x hx
      have HC := Lib.hid hcall
      clear hcall hnm mem hps hpl2
      go_wp2_with (go_at_call 25; refine HC.out.mono ?_; rintro e w1 ⟨A1, c1, rfl, ho1, hb1⟩)
      have hbw1 := hbel.trans (hb1.mono hbel.size)
      have hle : L.length ≤ 20000 := by
        have h1 := encs_len (rs.map (·.r)) (fun r hr' => by obtain ⟨x, hx, rfl⟩ := List.mem_map.1 hr'; exact hsm x hx)
        have h2 : trailerRec.enc.length ≤ 200 := by decide
        rw [hL.out, List.length_append]
        rw [List.length_map] at h1
        omega
      have hv0 : Own (w1.alloc (.cells #[] 5)).drew w1.heap.size 5 1 (.slice (some ⟨w1.heap.size, 0, none⟩) 0 0) 0 (bv []) := (own_empty w1).drew
      have hbw2 : Below w.heap.size w (w1.alloc (.cells #[] 5)).drew := below_drewN (hbw1.alloc hbw1.size _) 1
      have ho2 : Rd (w1.alloc (.cells #[] 5)).drew w1.heap.size 1 A1 L.length (bv L) := (ho1.rd.alloc (Nat.le_refl _) _).drew
      have HW := Lib.hid (show w1.heap.size ≤ (w1.alloc (.cells #[] 5)).drew.heap.size by simp)
      have HW0 := Lib.hid hbw1.size
      go_region_held3 (fun _ => True) (trivial) (first
        | (refine step_appb _ rfl (.tmp 55) (.tmp 56) rfl w1.heap.size (.slice (some ⟨w1.heap.size, 0, none⟩) 0 0) 0 [] rfl hv0 w1.heap.size A1 _ c1 L rfl ho2 L (Lib.hid rfl) (by omega) HW.out ?_
           intro A2 c2 w2 hown2 hg2 hat2
           have hb2 : Below w.heap.size w w2 := hbw2.grown hg2 (Nat.le_trans HW0.out HW.out) (fun j hj => Nat.le_trans HW0.out (hv0.lt j hj).1)
           have hBb := hb.old hb2
           have hBo := hok.old hb2
           have z1 := hBb.frozen 0
           have z2 := hBo.frozen 0
           have y1 : w2.cell? ⟨gb, 0, none⟩ = some vb := by rw [hBb.cell]; rfl
           have y2 : w2.cell? ⟨gok, 0, none⟩ = some vo := by rw [hBo.cell]; rfl
           have hne := hBb.ne_ hBo (by decide)))
      all_goals
        go_end0
        exact ⟨rfl, w2, A2, c2, hb2, hown2.more HW0.out, rfl⟩
end Go.Proofs.Ytcecfjblgakfeaa
