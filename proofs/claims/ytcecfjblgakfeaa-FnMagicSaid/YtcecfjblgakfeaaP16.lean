/- The closure of Parse. -/
import Derived.Test.YtcecfjblgakfeaaP13
import Derived.Test.YtcecfjblgakfeaaP14
import Derived.Test.YtcecfjblgakfeaaP15
namespace Go.Proofs.Ytcecfjblgakfeaa
open Go.RowKit
theorem a44 : (Try.prog.info? 44).map (fun i => (i.zero, i.size, i.bytes)) = some (some (.agg #[.int .u64 0, .int .u64 0, .int .u64 0, .int .u64 0, .int .u64 0, .int .u64 0, .int .u64 0, .int .u64 0, .int .u64 0, .int .u64 0, .string ⟨#[]⟩, .slice none 0 0]), 12, 120) := by kernel_rfl
/-- append of one of the thin package's records as a step of a region that draws its order. -/
theorem step_app44 {ops : Array Oper} {o : Oper} {a : Act} {K : Act → World → Prop} {Q : Exit → Act → World → Prop} {E : Prop} (w : World) (hgd : o.guard = none) (s x : Operand)
    (ho : o.op = .call { callee := .builtin .append, args := #[s, x], argTypes := #[22, 22] })
    (base : Nat) (v : Value) (rs : List In) (y : In) (n : Nat) (hs : a.eval s = v) (hown : Own w base 44 12 v n (inCells rs))
    (B : Nat) (A : Option Addr) (c : Nat) (hx : a.eval x = .slice A 1 c) (hr : Rd w B 12 A 1 (inCells [y])) (hlen : n ≤ 1000) (hbase : base ≤ w.heap.size)
    (h : ∀ v' w', Own w' base 44 12 v' (n + 1) (inCells (rs ++ [y])) → w.grownBy w' v.ownBlock → (∀ g, v'.ownBlock = some g → v.ownBlock = some g ∨ w.heap.size ≤ g) → K (a.put o.dst v') w') :
    if Region.wanted o (yielded ops a.tmps) = true then Oper.wp Try.prog o a w K Q else E := by
  have hw : Region.wanted o (yielded ops a.tmps) = true := by simp [Region.wanted, hgd]
  rw [if_pos hw]
  obtain ⟨i0, hi, hz0, hz1, hz2⟩ := info_parts a44
  refine wp_app w s x 22 ho base 44 i0 _ 12 120 Try.underlying22 hi hz0 hz1 hz2 rfl (by decide) v n (inCells rs) hs hown B A 1 c (inCells [y]) hx hr (fun u hu => ?_) (by unfold maxLen; omega) (by omega) hbase fun v' w' h1 h2 h3 => h v' w' ?_ h2 h3
  · simp only [inCells, List.flatMap_cons, List.flatMap_nil, List.append_nil] at hu
    exact (Array.all_eq_true_iff_forall_mem.1 (in_one y)) u (by simpa using hu)
  · have e : inCells (rs ++ [y]) = inCells rs ++ inCells [y] := by simp [inCells]
    rw [e]
    exact h1
theorem got_range {w : World} {B n k : Nat} {A : Option Addr} {xs : List Got} (hr : Rd w B 17 A n (fCells xs)) (hn : n = xs.length) (hlt : k < n) :
    ∃ b off x, A = some ⟨b, off, none⟩ ∧ xs[k]? = some x ∧ b < B ∧ w.rangeAt b (off + k * 17) x.cells.toList := by
  obtain ⟨b, off, rfl, hbb, hc⟩ := hr.at_ hlt
  subst hn
  refine ⟨b, off, xs[k], rfl, List.getElem?_eq_getElem hlt, hbb, fun j v hv => ?_⟩
  have hj : j < 17 := by
    have := (List.getElem?_eq_some_iff.1 hv).1
    simpa [Got.size] using this
  rw [hc j hj, fCells_at xs k _ (List.getElem?_eq_getElem hlt) j hj, ← hv]
  simp
theorem Own.apart {w : World} {base base' e e' size size' n n' : Nat} {v v' : Value} {xs xs' : List Value} (h : Own w base e size v n xs) (h' : Own w base' e' size' v' n' xs') (hne : e ≠ e') (g : Nat) (hg : v.ownBlock = some g) : v'.ownBlock ≠ some g := fun hg' => by
  obtain ⟨c1, f1, h1⟩ := h.type g hg
  obtain ⟨c2, f2, h2⟩ := h'.type g hg'
  rw [h1] at h2
  injection h2 with h2
  injection h2 with _ ht
  exact hne ht
theorem Tail.len {bad : Bool} {tail : List UInt8} (h : Tail bad tail) : 110 ≤ tail.length := by
  rcases h with ⟨_, tl, rest, _, _, rfl⟩ | ⟨_, h, _⟩
  · have h1 := tl.enc_len
    have h2 := tl.front_len
    rw [List.length_append]
    omega
  · exact h
/-- What the closure of Parse comes to. -/
def Parsed (bad : Bool) (rs : List Rec) (gl gok : Nat) (w : World) (e : Ending) (w' : World) : Prop :=
  e = .returned (.tuple #[]) ∧ ((bad = true ∧ Onl (fun _ => False) w w') ∨
    (bad = false ∧ Onl (fun k => k = gl ∨ k = gok) w w' ∧ ∃ A c ins, Blk w' gl 22 #[.slice A rs.length c] ∧ Blk w' gok 4 #[.bool true] ∧ Own w' w.heap.size 44 12 (.slice A rs.length c) rs.length (inCells ins) ∧ ins.map (·.r) = rs ∧ ∀ y ∈ ins, Own w' w.heap.size 5 1 (.slice y.A y.r.data.length y.c) y.r.data.length (bv y.r.data)))
set_option maxRecDepth 100000 in
set_option maxHeartbeats 4000000 in
theorem parse1_any (bad : Bool) (rs : List Rec) (tail : List UInt8) (ht : Tail bad tail) (hsm : ∀ r ∈ rs, r.Small) (hnt : ∀ r ∈ rs, r.name ≠ trailer) (hn20 : rs.length ≤ 20) (gd gl gok n c : Nat) (A : Option Addr) (vo : Value) (d : List UInt8) (hd : d = encs rs ++ tail) (hn : n = d.length) (hn9 : n ≤ 1000000) (w : World)
    (hdat : Rd w w.heap.size 1 A n (bv d)) (hD : Blk w gd 28 #[.slice A n c]) (hL : Blk w gl 22 #[.slice none 0 0]) (hok : Blk w gok 4 #[vo]) :
    Calls Try.prog 30 #[.pointer (some ⟨gd, 0, none⟩), .pointer (some ⟨gl, 0, none⟩), .pointer (some ⟨gok, 0, none⟩)] w (Parsed bad rs gl gok w) := by
  subst hn
  have h0 : 0 < d.length := by rw [hd, List.length_append]; have := ht.len; omega
  have hcd : (w.alloc (.cells #[] 5)).cell? ⟨gd, 0, none⟩ = some (.slice A d.length c) := by rw [(hD.alloc _).cell]; rfl
  have hv0 := own_empty w
  have hd0 := hdat.alloc (Nat.le_refl _) (.cells #[] 5)
  have HB := Lib.hid (show w.heap.size ≤ (w.alloc (.cells #[] 5)).heap.size by simp)
  have hb0 : Below w.heap.size w (w.alloc (.cells #[] 5)) := (Below.refl _ _).alloc (Nat.le_refl _) _
  have HD := Lib.hid hd
  have HT := Lib.hid ht
  clear hd ht
  go_enter Try.func30, Try.ntmps30
  go_wp2_with (first
    | (at_builtin
       refine wpList_appb _ rfl (.tmp 10) (.tmp 11) rfl w.heap.size (.slice (some ⟨w.heap.size, 0, none⟩) 0 0) 0 [] rfl hv0 w.heap.size A d.length c d rfl hd0 d (Lib.hid rfl) (by omega) HB.out ?_
       intro A1 c1 w1 ho1 hg1 hat1))
  have hb1 : Below w.heap.size w w1 := hb0.grown hg1 HB.out (fun j hj => (hv0.lt j hj).1)
  have hr1 := ho1.rd
  have hc1 := ho1.cap
  obtain ⟨b, off, rfl, _, _⟩ := hr1.2 h0
  refine (zzreader_any _ d.length c1 w1).mono ?_
  rintro e w2 ⟨gR, g, rfl, hgR, hR2, hS2, hg, hb2⟩
  have hsrc : Src w2 g b off w1.heap.size d.length c1 d := ⟨hS2, hr1.below hb2, hc1, hn9⟩
  have hcall := readrecs_any bad rs tail HT.out hsm hnt hn20 gR g b off w1.heap.size d.length c1 d HD.out w2 hR2 hsrc hgR
  have HC := Lib.hid hcall
  clear hcall hcd hv0 hd0
  go_wp2_with fail
  refine HC.out.mono ?_
  rintro e w3 ⟨A3, c3, er, xs, rfl, hcase, hown3, hxs, hok3, ho3⟩
  have hb3 : Below w1.heap.size w1 w3 := ⟨ho3.1.trans hb2.os, ho3.2.1.trans hb2.tape, ho3.2.2.1.trans hb2.output, Nat.le_trans hb2.size ho3.size, fun k hk => (ho3.2.2.2.2 k (Nat.lt_of_lt_of_le hk hb2.size) (fun e => by omega)).trans (hb2.block k hk)⟩
  have hbw3 : Below w.heap.size w w3 := hb1.trans (hb3.mono hb1.size)
  have hR2l := hR2.lt
  have hsrc3 : Src w3 g b off w1.heap.size d.length c1 d := hsrc.onl ho3 hb2.size (fun e => hS2.ne_ hR2 (by decide) e) (fun k _ e => by omega)
  have hL3 := hL.below hbw3 hL.lt
  have hk3 := hok.below hbw3 hok.lt
  have HXS := Lib.hid hxs
  clear hxs
  rcases hcase with ⟨hbd, rfl⟩ | ⟨hbd, p, rfl⟩
  · go_wp2_with fail
    go_loopw [21] (fun i wr => ∃ (k : Nat) (v : Value) (ins : List In), k ≤ rs.length ∧ i = .int .i64 k ∧ Blk wr gl 22 #[v] ∧ Own wr w3.heap.size 44 12 v k (inCells ins) ∧ Hid (ins.map (·.r) = rs.take k) ∧ (∀ y ∈ ins, Own wr w3.heap.size 5 1 (.slice y.A y.r.data.length y.c) y.r.data.length (bv y.r.data)) ∧ Onl (fun q => q = gl) w3 wr)
      (fun i _ => rs.length - (RowKit.intOf i).toNat)
    case atStart => exact ⟨0, _, [], Nat.zero_le _, rfl, hL3, Own.nil_ _ _ _ _, Lib.hid rfl, fun y hy => (List.not_mem_nil hy).elim, Onl.refl _ _⟩
    case round =>
      obtain ⟨k, v, ins, hk, rfl, hLr, hown, hins, hdr, hor⟩ := hrel
      have hzr := hor.size
      by_cases hlt : k < rs.length
      · have hfil : Own wr w2.heap.size 54 17 (.slice A3 rs.length c3) rs.length (fCells xs) := hown3.keep fun q hq => hor.2.2.2.2 q (hown3.lt q hq).2 (fun e => hown3.blk_ne hL3 (by decide) (by rw [hq, e]))
        obtain ⟨_, _, esh, _, _, hfrd⟩ := hfil.shape
        injection esh with e1 e2 e3
        subst e1 e3
        have hlens : rs.length = xs.length := by
          have := congrArg List.length HXS.out
          simpa using this.symm
        obtain ⟨bf, of, x, rfl, hx, hbf, hrg⟩ := got_range hfrd hlens hlt
        have hxm : x ∈ xs := List.mem_of_getElem? hx
        have hxr : x.r ∈ rs := by rw [← HXS.out]; exact List.mem_map_of_mem hxm
        have hxl := (hsm _ hxr).data
        have hgot : GotOk wr g d x := (hok3 x hxm).keep (hor.2.2.2.2 x.g (hok3 x hxm).1.lt (fun e => (hok3 x hxm).1.ne_ hL3 (by decide) e))
        have hdo3 := ho1.old hb3
        have hdo : Own wr w.heap.size 5 1 (.slice (some ⟨b, off, none⟩) d.length c1) d.length (bv d) := hdo3.keep fun q hq => hor.2.2.2.2 q (hdo3.lt q hq).2 (fun e => hdo3.blk_ne hL3 (by decide) (by rw [hq, e]))
        have hsr : Src wr g b off wr.heap.size d.length c1 d := ⟨hor.blk hsrc3.1 (fun e => hsrc3.1.ne_ hL3 (by decide) e), hdo.rd, hc1, hn9⟩
        obtain ⟨cs, hcs⟩ : ∃ cs : List Value, cs.toArray = x.cells := ⟨x.cells.toList, by simp⟩
        have hrg : wr.rangeAt bf (of + k * 17) cs := by
          have : cs = x.cells.toList := by rw [← hcs]
          rw [this]
          exact hrg
        have hone : cs.toArray.all (·.oneCell') = true := by rw [hcs]; exact x.one
        have hl17 : cs.length = 17 := by
          have := congrArg Array.size hcs
          rw [Got.size] at this
          simpa using this
        have hi54 : (Try.prog.info? 54).map (·.size) = some cs.length := by rw [hl17]; exact info54
        have hbx : Blk ((wr.alloc (.cells zRec 54)).setRow wr.heap.size cs.toArray) wr.heap.size 54 cs.toArray := setRow_blk (Blk.new _ _ _)
        have hbw : Below wr.heap.size wr ((wr.alloc (.cells zRec 54)).setRow wr.heap.size cs.toArray) := ((Below.refl _ _).alloc (Nat.le_refl _) _).grown (setRow_grown _ _ _) (by simp) (fun j hj => by cases hj; exact Nat.le_refl _)
        have hrg2 := hbx.range
        have hold17 : zRec.size = cs.toArray.size := by rw [show cs.toArray.size = 17 by simpa using hl17]; rfl
        have hcall2 := content_any x g b off wr.heap.size d.length c1 d ((wr.alloc (.cells zRec 54)).setRow wr.heap.size cs.toArray) (hgot.keep (hbw.block _ hgot.1.lt)) (hsr.below hbw (Nat.le_refl _)) hbw.size hxl cs hcs
        have HC2 := Lib.hid hcall2
        have HO17 := Lib.hid hold17
        have HCS := Lib.hid hcs
        have HX := Lib.hid hx
        have HLENS := Lib.hid hlens
        clear hcs hl17 hold17 hcall2 hx hlens hfrd
        go_wp2_with (first
          | (refine wpList_load_mid rfl 54 (.tmp 23) rfl bf (of + k * 17) rfl cs _ hrg Try.underlying54 rfl hi54 ?_)
          | (refine wpList_store_row rfl 54 (.tmp 6) (.tmp 24) rfl wr.heap.size cs.toArray rfl rfl 54 _ (Blk.new _ _ _) (by simpa using hi54) HO17.out hone ?_)
          | (refine wpList_load_mid rfl 54 (.tmp 6) rfl wr.heap.size 0 rfl cs _ hrg2 Try.underlying54 rfl hi54 ?_)
          | (go_at_call 33
             refine HC2.out.mono ?_
             rintro e w5 ⟨gp, rfl, ho5, hn5⟩))
        generalize (wr.alloc (.cells zRec 54)).setRow wr.heap.size cs.toArray = w4 at *
        have hb45 : Below w4.heap.size w4 w5 := hn5.below (Nat.le_refl _) (fun _ _ e => e.elim)
        have hbw5 : Below wr.heap.size wr w5 := hbw.trans (hb45.mono hbw.size)
        have hz5 := hbw5.size
        rw [HCS.out] at hbx
        have hbx5 : Blk w5 wr.heap.size 54 (rRecCells x.r x.g x.p x.l x.f) := hbx.old hb45
        have hL5 := hLr.old hbw5
        have hown5 := hown.old hbw5
        have hdr5 : ∀ y ∈ ins, Own w5 w3.heap.size 5 1 (.slice y.A y.r.data.length y.c) y.r.data.length (bv y.r.data) := fun y hy => (hdr y hy).old hbw5
        have hor5 : Onl (fun q => q = gl) w3 w5 := hor.tr (Onl.of_below (P := fun q => q = gl) hbw5) (fun _ _ h => h)
        have hlt5 := hbx5.lt
        have hcd5 : Rd w5 w5.heap.size 1 (some ⟨gp, 0, none⟩) x.r.data.length (bv x.r.data) := ho5.rd
        obtain ⟨A4, c4, rfl, hc4, _, _⟩ := hown5.shape
        have hgl3 := hL3.lt
        have hglr := hLr.lt
        have hgl5 := hL5.lt
        have hne6 : wr.heap.size ≠ gl := by omega
        clear hbx hrg hrg2 hone hi54 HO17 HCS HC2 ho5 hn5 hbw hgot hsr hdo hdo3 hfil hL hok hdat hD hb45
        have hv0 : Own (w5.alloc (.cells #[] 5)).drew w5.heap.size 5 1 (.slice (some ⟨w5.heap.size, 0, none⟩) 0 0) 0 (bv []) := (own_empty w5).drew
        have hbA : Below w5.heap.size w5 (w5.alloc (.cells #[] 5)).drew := below_drewN ((Below.refl _ _).alloc (Nat.le_refl _) _) 1
        have hcdA : Rd (w5.alloc (.cells #[] 5)).drew w5.heap.size 1 (some ⟨gp, 0, none⟩) x.r.data.length (bv x.r.data) := hcd5.below hbA
        have HA := Lib.hid (show w5.heap.size ≤ (w5.alloc (.cells #[] 5)).drew.heap.size from hbA.size)
        have hbc5 : ∀ i, w5.drew.cell? ⟨wr.heap.size, i, none⟩ = (rRecCells x.r x.g x.p x.l x.f)[i]? := hbx5.cell
        have hbcA := (hbx5.old hbA).cell
        have cg5 : w5.drew.cell? ⟨gl, 0, none⟩ = some (.slice A4 k c4) := by show w5.cell? _ = _; rw [hL5.cell]; rfl
        have cgA : (w5.alloc (.cells #[] 5)).drew.cell? ⟨gl, 0, none⟩ = some (.slice A4 k c4) := by rw [(hL5.old hbA).cell]; rfl
        have hHDL : Hid (x.r.data = [] ++ x.r.data) := Lib.hid rfl
        have hSS : w5.drew.cell? ⟨gl, 0, none⟩ = some (.slice A4 k c4) ∧ ∀ i, w5.drew.cell? ⟨wr.heap.size, i, none⟩ = (rRecCells x.r x.g x.p x.l x.f)[i]? := ⟨cg5, hbc5⟩
        refine wp_region_E (fun w' => w'.cell? ⟨gl, 0, none⟩ = some (.slice A4 k c4) ∧ ∀ i, w'.cell? ⟨wr.heap.size, i, none⟩ = (rRecCells x.r x.g x.p x.l x.f)[i]?) 40 (by kernel_rfl) ?_
        refine wpAnyE.take (i := 0) (v := ?_) rfl (by kernel_rfl) (fun _ _ _ h => h) hSS (by rfl) (fun w hSw => ?_) ?_
        rotate_left
        · (try dsimp only at hSw); go_simp; try with_reducible rfl
        rotate_left
        (try simp only [Act.put, List.setIfInBounds_toArray, List.set_cons_zero, List.set_cons_succ])
        refine wpAnyE.take (i := 1) (v := ?_) rfl (by kernel_rfl) (fun _ _ _ h => h) hSS (by rfl) (fun w hSw => ?_) ?_
        rotate_left
        · (try dsimp only at hSw); go_simp; try with_reducible rfl
        rotate_left
        (try simp only [Act.put, List.setIfInBounds_toArray, List.set_cons_zero, List.set_cons_succ])
        refine wpAnyE.take (i := 2) (v := ?_) rfl (by kernel_rfl) (fun _ _ _ h => h) hSS (by rfl) (fun w hSw => ?_) ?_
        rotate_left
        · (try dsimp only at hSw); go_simp; try with_reducible rfl
        rotate_left
        (try simp only [Act.put, List.setIfInBounds_toArray, List.set_cons_zero, List.set_cons_succ])
        refine wpAnyE.take (i := 3) (v := ?_) rfl (by kernel_rfl) (fun _ _ _ h => h) hSS (by rfl) (fun w hSw => ?_) ?_
        rotate_left
        · (try dsimp only at hSw); go_simp; try with_reducible rfl
        rotate_left
        (try simp only [Act.put, List.setIfInBounds_toArray, List.set_cons_zero, List.set_cons_succ])
        refine wpAnyE.take (i := 4) (v := ?_) rfl (by kernel_rfl) (fun _ _ _ h => h) hSS (by rfl) (fun w hSw => ?_) ?_
        rotate_left
        · (try dsimp only at hSw); go_simp; try with_reducible rfl
        rotate_left
        (try simp only [Act.put, List.setIfInBounds_toArray, List.set_cons_zero, List.set_cons_succ])
        refine wpAnyE.take (i := 5) (v := ?_) rfl (by kernel_rfl) (fun _ _ _ h => h) hSS (by rfl) (fun w hSw => ?_) ?_
        rotate_left
        · (try dsimp only at hSw); go_simp; try with_reducible rfl
        rotate_left
        (try simp only [Act.put, List.setIfInBounds_toArray, List.set_cons_zero, List.set_cons_succ])
        refine wpAnyE.take (i := 6) (v := ?_) rfl (by kernel_rfl) (fun _ _ _ h => h) hSS (by rfl) (fun w hSw => ?_) ?_
        rotate_left
        · (try dsimp only at hSw); go_simp; try with_reducible rfl
        rotate_left
        (try simp only [Act.put, List.setIfInBounds_toArray, List.set_cons_zero, List.set_cons_succ])
        refine wpAnyE.take (i := 7) (v := ?_) rfl (by kernel_rfl) (fun _ _ _ h => h) hSS (by rfl) (fun w hSw => ?_) ?_
        rotate_left
        · (try dsimp only at hSw); go_simp; try with_reducible rfl
        rotate_left
        (try simp only [Act.put, List.setIfInBounds_toArray, List.set_cons_zero, List.set_cons_succ])
        refine wpAnyE.take (i := 8) (v := ?_) rfl (by kernel_rfl) (fun _ _ _ h => h) hSS (by rfl) (fun w hSw => ?_) ?_
        rotate_left
        · (try dsimp only at hSw); go_simp; try with_reducible rfl
        rotate_left
        (try simp only [Act.put, List.setIfInBounds_toArray, List.set_cons_zero, List.set_cons_succ])
        refine wpAnyE.take (i := 9) (v := ?_) rfl (by kernel_rfl) (fun _ _ _ h => h) hSS (by rfl) (fun w hSw => ?_) ?_
        rotate_left
        · (try dsimp only at hSw); go_simp; try with_reducible rfl
        rotate_left
        (try simp only [Act.put, List.setIfInBounds_toArray, List.set_cons_zero, List.set_cons_succ])
        refine wpAnyE.take (i := 10) (v := ?_) rfl (by kernel_rfl) (fun _ _ _ h => h) hSS (by rfl) (fun w hSw => ?_) ?_
        rotate_left
        · (try dsimp only at hSw); go_simp; try with_reducible rfl
        rotate_left
        (try simp only [Act.put, List.setIfInBounds_toArray, List.set_cons_zero, List.set_cons_succ])
        refine wpAnyE.take (i := 11) (v := ?_) rfl (by kernel_rfl) (fun _ _ _ h => h) hSS (by rfl) (fun w hSw => ?_) ?_
        rotate_left
        · (try dsimp only at hSw); go_simp; try with_reducible rfl
        rotate_left
        (try simp only [Act.put, List.setIfInBounds_toArray, List.set_cons_zero, List.set_cons_succ])
        refine wpAnyE.take (i := 12) (v := ?_) rfl (by kernel_rfl) (fun _ _ _ h => h) hSS (by rfl) (fun w hSw => ?_) ?_
        rotate_left
        · (try dsimp only at hSw); go_simp; try with_reducible rfl
        rotate_left
        (try simp only [Act.put, List.setIfInBounds_toArray, List.set_cons_zero, List.set_cons_succ])
        refine wpAnyE.take (i := 13) (v := ?_) rfl (by kernel_rfl) (fun _ _ _ h => h) hSS (by rfl) (fun w hSw => ?_) ?_
        rotate_left
        · (try dsimp only at hSw); go_simp; try with_reducible rfl
        rotate_left
        (try simp only [Act.put, List.setIfInBounds_toArray, List.set_cons_zero, List.set_cons_succ])
        refine wpAnyE.take (i := 14) (v := ?_) rfl (by kernel_rfl) (fun _ _ _ h => h) hSS (by rfl) (fun w hSw => ?_) ?_
        rotate_left
        · (try dsimp only at hSw); go_simp; try with_reducible rfl
        rotate_left
        (try simp only [Act.put, List.setIfInBounds_toArray, List.set_cons_zero, List.set_cons_succ])
        refine wpAnyE.take (i := 15) (v := ?_) rfl (by kernel_rfl) (fun _ _ _ h => h) hSS (by rfl) (fun w hSw => ?_) ?_
        rotate_left
        · (try dsimp only at hSw); go_simp; try with_reducible rfl
        rotate_left
        (try simp only [Act.put, List.setIfInBounds_toArray, List.set_cons_zero, List.set_cons_succ])
        refine wpAnyE.take (i := 16) (v := ?_) rfl (by kernel_rfl) (fun _ _ _ h => h) hSS (by rfl) (fun w hSw => ?_) ?_
        rotate_left
        · (try dsimp only at hSw); go_simp; try with_reducible rfl
        rotate_left
        (try simp only [Act.put, List.setIfInBounds_toArray, List.set_cons_zero, List.set_cons_succ])
        refine wpAnyE.take (i := 17) (v := ?_) rfl (by kernel_rfl) (fun _ _ _ h => h) hSS (by rfl) (fun w hSw => ?_) ?_
        rotate_left
        · (try dsimp only at hSw); go_simp; try with_reducible rfl
        rotate_left
        (try simp only [Act.put, List.setIfInBounds_toArray, List.set_cons_zero, List.set_cons_succ])
        refine wpAnyE.take (i := 18) (v := ?_) rfl (by kernel_rfl) (fun _ _ _ h => h) hSS (by rfl) (fun w hSw => ?_) ?_
        rotate_left
        · (try dsimp only at hSw); go_simp; try with_reducible rfl
        rotate_left
        (try simp only [Act.put, List.setIfInBounds_toArray, List.set_cons_zero, List.set_cons_succ])
        refine wpAnyE.take (i := 19) (v := ?_) rfl (by kernel_rfl) (fun _ _ _ h => h) hSS (by rfl) (fun w hSw => ?_) ?_
        rotate_left
        · (try dsimp only at hSw); go_simp; try with_reducible rfl
        rotate_left
        (try simp only [Act.put, List.setIfInBounds_toArray, List.set_cons_zero, List.set_cons_succ])
        refine wpAnyE.take (i := 20) (v := ?_) rfl (by kernel_rfl) (fun _ _ _ h => h) hSS (by rfl) (fun w hSw => ?_) ?_
        rotate_left
        · (try dsimp only at hSw); go_simp; try with_reducible rfl
        rotate_left
        (try simp only [Act.put, List.setIfInBounds_toArray, List.set_cons_zero, List.set_cons_succ])
        refine wpAnyE.take (i := 21) (v := ?_) rfl (by kernel_rfl) (fun _ _ _ h => h) hSS (by rfl) (fun w hSw => ?_) ?_
        rotate_left
        · (try dsimp only at hSw); go_simp; try with_reducible rfl
        rotate_left
        (try simp only [Act.put, List.setIfInBounds_toArray, List.set_cons_zero, List.set_cons_succ])
        refine wpAnyE.take (i := 22) (v := ?_) rfl (by kernel_rfl) (fun _ _ _ h => h) hSS (by rfl) (fun w hSw => ?_) ?_
        rotate_left
        · (try dsimp only at hSw); go_simp; try with_reducible rfl
        rotate_left
        (try simp only [Act.put, List.setIfInBounds_toArray, List.set_cons_zero, List.set_cons_succ])
        refine wpAnyE.take (i := 23) (v := ?_) rfl (by kernel_rfl) (fun _ _ _ h => h) hSS (by rfl) (fun w hSw => ?_) ?_
        rotate_left
        · (try dsimp only at hSw); go_simp; try with_reducible rfl
        rotate_left
        (try simp only [Act.put, List.setIfInBounds_toArray, List.set_cons_zero, List.set_cons_succ])
        refine wpAnyE.take (i := 24) (v := ?_) rfl (by kernel_rfl) (fun _ _ _ h => h) hSS (by rfl) (fun w hSw => ?_) ?_
        rotate_left
        · (try dsimp only at hSw); go_simp; try with_reducible rfl
        rotate_left
        (try simp only [Act.put, List.setIfInBounds_toArray, List.set_cons_zero, List.set_cons_succ])
        refine wpAnyE.take (i := 25) (v := ?_) rfl (by kernel_rfl) (fun _ _ _ h => h) hSS (by rfl) (fun w hSw => ?_) ?_
        rotate_left
        · (try dsimp only at hSw); go_simp; try with_reducible rfl
        rotate_left
        (try simp only [Act.put, List.setIfInBounds_toArray, List.set_cons_zero, List.set_cons_succ])
        refine wpAnyE.take (i := 26) (v := ?_) rfl (by kernel_rfl) (fun _ _ _ h => h) hSS (by rfl) (fun w hSw => ?_) ?_
        rotate_left
        · (try dsimp only at hSw); go_simp; try with_reducible rfl
        rotate_left
        (try simp only [Act.put, List.setIfInBounds_toArray, List.set_cons_zero, List.set_cons_succ])
        refine wpAnyE.take (i := 27) (v := ?_) rfl (by kernel_rfl) (fun _ _ _ h => h) hSS (by rfl) (fun w hSw => ?_) ?_
        rotate_left
        · (try dsimp only at hSw); go_simp; try with_reducible rfl
        rotate_left
        (try simp only [Act.put, List.setIfInBounds_toArray, List.set_cons_zero, List.set_cons_succ])
        refine wpAnyE.take (i := 28) (v := ?_) rfl (by kernel_rfl) (fun _ _ _ h => h) hSS (by rfl) (fun w hSw => ?_) ?_
        rotate_left
        · (try dsimp only at hSw); go_simp; try with_reducible rfl
        rotate_left
        (try simp only [Act.put, List.setIfInBounds_toArray, List.set_cons_zero, List.set_cons_succ])
        refine wpAnyE.take (i := 29) (v := ?_) rfl (by kernel_rfl) (fun _ _ _ h => h) hSS (by rfl) (fun w hSw => ?_) ?_
        rotate_left
        · (try dsimp only at hSw); go_simp; try with_reducible rfl
        rotate_left
        (try simp only [Act.put, List.setIfInBounds_toArray, List.set_cons_zero, List.set_cons_succ])
        refine wpAnyE.take (i := 30) (v := ?_) rfl (by kernel_rfl) (fun _ _ _ h => h) hSS (by rfl) (fun w hSw => ?_) ?_
        rotate_left
        · (try dsimp only at hSw); go_simp; try with_reducible rfl
        rotate_left
        (try simp only [Act.put, List.setIfInBounds_toArray, List.set_cons_zero, List.set_cons_succ])
        refine wpAnyE.take (i := 31) (v := ?_) rfl (by kernel_rfl) (fun _ _ _ h => h) hSS (by rfl) (fun w hSw => ?_) ?_
        rotate_left
        · (try dsimp only at hSw); go_simp; try with_reducible rfl
        rotate_left
        (try simp only [Act.put, List.setIfInBounds_toArray, List.set_cons_zero, List.set_cons_succ])
        refine wpAnyE.take (i := 32) (v := ?_) rfl (by kernel_rfl) (fun _ _ _ h => h) hSS (by rfl) (fun w hSw => ?_) ?_
        rotate_left
        · (try dsimp only at hSw); go_simp; try with_reducible rfl
        rotate_left
        (try simp only [Act.put, List.setIfInBounds_toArray, List.set_cons_zero, List.set_cons_succ])
        refine wpAnyE.take (i := 33) (v := ?_) rfl (by kernel_rfl) (fun _ _ _ h => h) hSS (by rfl) (fun w hSw => ?_) ?_
        rotate_left
        · (try dsimp only at hSw); go_simp; try with_reducible rfl
        rotate_left
        (try simp only [Act.put, List.setIfInBounds_toArray, List.set_cons_zero, List.set_cons_succ])
        refine wpAnyE.take (i := 35) (v := ?_) rfl (by kernel_rfl) (fun _ _ _ h => h) hSS (by rfl) (fun w hSw => ?_) ?_
        rotate_left
        · (try dsimp only at hSw); go_simp; try with_reducible rfl
        rotate_left
        (try simp only [Act.put, List.setIfInBounds_toArray, List.set_cons_zero, List.set_cons_succ])
        refine wpAnyE.step (c := 34) rfl (by kernel_rfl) (fun K hK => ?_)
        go_simp
        refine hK.out _ _ (fun _ => ⟨cgA, hbcA⟩) ?_
        clear hK K
        (try simp only [Act.put, List.setIfInBounds_toArray, List.set_cons_zero, List.set_cons_succ])
        refine wpAnyE.step (c := 36) rfl (by kernel_rfl) (fun K hK => ?_)
        refine step_appb _ rfl (.tmp 66) (.tmp 67) rfl w5.heap.size (.slice (some ⟨w5.heap.size, 0, none⟩) 0 0) 0 [] rfl hv0 w5.heap.size (some ⟨gp, 0, none⟩) x.r.data.length 512 x.r.data rfl hcdA x.r.data hHDL (by omega) HA.out ?_
        intro A6 c6 w6 hown6 hg6 hat6
        have hb56 : Below w5.heap.size w5 w6 := hbA.grown hg6 HA.out (fun j hj => (hv0.lt j hj).1)
        have hbx6 := hbx5.old hb56
        have hbc6 := hbx6.cell
        have hbx6a := hbx6.alloc (.cells (recCells x.r A6 c6) 44)
        have hbc6a := hbx6a.cell
        have hL6 := hL5.old hb56
        have hL6a := hL6.alloc (.cells (recCells x.r A6 c6) 44)
        have cg6 : w6.cell? ⟨gl, 0, none⟩ = some (.slice A4 k c4) := by rw [hL6.cell]; rfl
        have cg6a : (w6.alloc (.cells (recCells x.r A6 c6) 44)).cell? ⟨gl, 0, none⟩ = some (.slice A4 k c4) := by rw [hL6a.cell]; rfl
        have hownl6 := (hown5.old hb56).alloc (.cells (recCells x.r A6 c6) 44)
        have HZ6 := Lib.hid (show w3.heap.size ≤ (w6.alloc (.cells (recCells x.r A6 c6) 44)).heap.size by have := hb56.size; simp; omega)
        refine hK.out _ _ (fun _ => ⟨cg6, hbc6⟩) ?_
        clear hK K
        (try simp only [Act.put, List.setIfInBounds_toArray, List.set_cons_zero, List.set_cons_succ])
        refine wpAnyE.step (c := 37) rfl (by kernel_rfl) (fun K hK => ?_)
        go_simp
        refine hK.out _ _ (fun _ => ⟨cg6, hbc6⟩) ?_
        clear hK K
        (try simp only [Act.put, List.setIfInBounds_toArray, List.set_cons_zero, List.set_cons_succ])
        refine wpAnyE.step (c := 38) rfl (by kernel_rfl) (fun K hK => ?_)
        go_simp
        refine hK.out _ _ (fun _ => ⟨cg6a, hbc6a⟩) ?_
        clear hK K
        (try simp only [Act.put, List.setIfInBounds_toArray, List.set_cons_zero, List.set_cons_succ])
        refine wpAnyE.step (c := 39) rfl (by kernel_rfl) (fun K hK => ?_)
        refine step_app44 _ rfl (.tmp 32) (.tmp 70) rfl w3.heap.size (.slice A4 k c4) ins ⟨x.r, A6, c6⟩ k rfl hownl6 (w6.heap.size + 1) (some ⟨w6.heap.size, 0, none⟩) 1 rfl (new_in w6 ⟨x.r, A6, c6⟩ 44) (by omega) HZ6.out ?_
        intro v7 w7 hown7 hg7 hat7
        have hne7 := hownl6.blk_ne hbx6a (by decide)
        have hbx7 : Blk w7 wr.heap.size 54 (rRecCells x.r x.g x.p x.l x.f) := (hg7.block wr.heap.size hbx6a.lt (fun e => hne7 e.symm)).trans hbx6a
        have hbc7 := hbx7.cell
        have hne7b := hownl6.blk_ne hL6a (by decide)
        have hL7 : Blk w7 gl 22 #[.slice A4 k c4] := (hg7.block gl hL6a.lt (fun e => hne7b e.symm)).trans hL6a
        have cg7 : w7.cell? ⟨gl, 0, none⟩ = some (.slice A4 k c4) := by rw [hL7.cell]; rfl
        have fz7 := hL7.frozen 0
        obtain ⟨A7, c7, rfl, hc7, _, _⟩ := hown7.shape
        refine hK.out _ _ (fun _ => ⟨cg7, hbc7⟩) ?_
        clear hK K
        (try simp only [Act.put, List.setIfInBounds_toArray, List.set_cons_zero, List.set_cons_succ])
        refine wpAnyE.step (c := 40) rfl (by kernel_rfl) (fun K hK => ?_)
        go_simp
        refine hK.out _ _ (fun _ => absurd rfl ‹_›) ?_
        clear hK K
        (try simp only [Act.put, List.setIfInBounds_toArray, List.set_cons_zero, List.set_cons_succ])
        refine wpAnyE.done (by kernel_rfl) ?_
        go_wp2
        have hor6 : Onl (fun q => q = gl) w3 (w6.alloc (.cells (recCells x.r A6 c6) 44)) := (hor5.tr (Onl.of_below (P := fun q => q = gl) hb56) (fun _ _ h => h)).alloc _
        have hor7 : Onl (fun q => q = gl) w3 w7 := hor6.tr (Q := fun q => (Value.slice A4 k c4).ownBlock = some q) ⟨hg7.os, hg7.tape, hg7.output, hg7.size, fun q hq hn => hg7.block q hq (fun e => hn e.symm)⟩ (fun q hq e => by have := (hown5.lt q e).1; omega)
        have hkeep : ∀ (A : Option Addr) (c' : Nat) (dd : List UInt8), Own w6 w3.heap.size 5 1 (.slice A dd.length c') dd.length (bv dd) → Own (w7.setCell ⟨gl, 0, none⟩ (.slice A7 (k + 1) c7)) w3.heap.size 5 1 (.slice A dd.length c') dd.length (bv dd) := fun A c' dd ho => by
          have ha := ho.alloc (.cells (recCells x.r A6 c6) 44)
          have h7 : Own w7 w3.heap.size 5 1 (.slice A dd.length c') dd.length (bv dd) := ha.keep fun q hq => hg7.block q (ha.lt q hq).2 (fun e => ha.apart hownl6 (by decide) q hq e.symm)
          exact h7.set_ (h7.blk_ne hL7 (by decide)) _
        refine ⟨⟨k + 1, _, ins ++ [⟨x.r, A6, c6⟩], hlt, by go_num, hL7.set_ 0 _, hown7.set_ (hown7.blk_ne hL7 (by decide)) _, Lib.hid ?_, fun y hy => ?_, hor7.set_ (fun _ => rfl) _⟩, by simp [RowKit.intOf]; omega⟩
        · rw [List.map_append, hins.out, List.take_add_one]
          congr 1
          have : rs[k]? = some x.r := by rw [← HXS.out, List.getElem?_map, HX.out]; rfl
          rw [this]
          rfl
        · rcases List.mem_append.1 hy with hy | hy
          · exact hkeep _ _ _ ((hdr5 y hy).old hb56)
          · rw [List.mem_singleton.1 hy]
            exact hkeep _ _ _ (hown6.more (by have := hor5.size; omega))
      · obtain rfl : k = rs.length := by omega
        have hkr : Blk wr gok 4 #[vo] := hor.blk hk3 (fun e => hL3.ne_ hk3 (by decide) e.symm)
        have zk := hkr.frozen 0
        have ck : wr.cell? ⟨gok, 0, none⟩ = some vo := by rw [hkr.cell]; rfl
        obtain ⟨A4, c4, rfl, hc4, _, _⟩ := hown.shape
        have hgk : gl ≠ gok := hLr.ne_ hkr (by decide)
        have hls : gl < w.heap.size := hL.lt
        have hw3 := hbw3.size
        go_wp2
        go_end0
        refine ⟨rfl, .inr ⟨hbd, ?_, A4, c4, ins, hLr.far (by simpa using hgk) _, by simpa using hkr.set_ 0 (.bool true), (hown.more hw3).set_ (hown.blk_ne hkr (by decide)) _, by rw [hins.out, List.take_length], fun y hy => ?_⟩⟩
        · exact ((Onl.of_below (P := fun q => q = gl ∨ q = gok) hbw3).tr hor (fun _ _ h => .inl h)).set_ (fun _ => .inr rfl) _
        · have hne := (hdr y hy).blk_ne hkr (by decide)
          have ho := (hdr y hy).set_ (p := ⟨gok, 0, none⟩) hne (.bool true)
          exact ho.more hw3
  · go_wp2
    go_end0
    exact ⟨rfl, .inl ⟨hbd, Onl.of_below hbw3⟩⟩
end Go.Proofs.Ytcecfjblgakfeaa
