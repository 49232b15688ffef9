/- The law of another magic number, walked. -/
import Derived.Test.YtcecfjblgakfeaaP17
import Derived.Test.YtcecfjblgakfeaaS12
import Derived.Test.YtcecfjblgakfeaaS13
namespace Go.Proofs.Ytcecfjblgakfeaa
open Go.RowKit
theorem set_run (s : List Rec) (r : Rec) (rest : List UInt8) (an : Nat) (y : UInt8) (h : an < 6) :
    (encs s ++ (r.enc ++ rest)).set (an + (encs s).length) y = encs s ++ (r.enc ++ rest).set an y ∧ ((r.enc ++ rest).set an y).take 6 = magic.set an y ∧ (encs s ++ (r.enc ++ rest))[an + (encs s).length]? = magic[an]? ∧ 110 ≤ ((r.enc ++ rest).set an y).length := by
  have hm := enc_magic r rest
  refine ⟨?_, ?_, ?_, ?_⟩
  · rw [List.set_append_right _ _ (by omega)]
    congr 2
    omega
  · rw [List.take_set, hm]
  · rw [List.getElem?_append_right (by omega), show an + (encs s).length - (encs s).length = an by omega, ← hm, List.getElem?_take, if_pos h]
  · have h1 := r.enc_len
    have h2 := r.front_len
    rw [List.length_set, List.length_append]
    omega
theorem magic_turned (an : Nat) (h : an < 6) (y : UInt8) (hy : magic[an]? ≠ some y) : (magic.set an y == magic) = false := by
  rw [beq_eq_false_iff_ne]
  intro e
  apply hy
  rw [← e, List.getElem?_set_self (by simpa [magic] using h)]
/-- A byte of a row of the call's own is turned. -/
theorem Own.turn {w : World} {base n c p : Nat} {A : Option Addr} {L : List UInt8} (h : Own w base 5 1 (.slice A n c) n (bv L)) (hp : p < n) :
    ∃ g, A = some ⟨g, 0, none⟩ ∧ base ≤ g ∧ g < w.heap.size ∧ w.frozen? ⟨g, p, none⟩ = false ∧ w.cell? ⟨g, p, none⟩ = (bv L)[p]? ∧
      ∀ y : UInt8, Rd (w.setCell ⟨g, p, none⟩ (.int .u8 (y.toNat : Int))) w.heap.size 1 A n (bv (L.set p y)) := by
  have hrd := h.rd
  have hlen : L.length = n := by have := h.1; rw [bv_len] at this; omega
  rcases h.2 with ⟨e, h0⟩ | ⟨g, cap, cur, fr, e, hb, h1, h2, hg, h3, h4, h5⟩
  · omega
  · injection e with e1 _ e3
    subst e1
    obtain ⟨b, off, e, _, hc⟩ := hrd.2 (by omega)
    injection e with e
    injection e with e4 e5
    subst e4 e5
    have hgl := lt_of_heap hg
    have hpl : p < L.length := by omega
    refine ⟨g, rfl, hb, hgl, ?_, ?_, fun y => ⟨by rw [bv_len, List.length_set]; omega, fun _ => ⟨g, 0, rfl, by simpa using hgl, fun j u hj => ?_⟩⟩⟩
    · have := h3 p (by omega)
      unfold World.frozen?
      simp only [hg]
      obtain ⟨lo, hi'⟩ := fr
      simp only [Bool.and_eq_false_iff, decide_eq_false_iff_not]
      simp only at this
      omega
    · have := hc p _ (bv_at L p hpl)
      rw [Nat.zero_add] at this
      rw [this, bv_at L p hpl]
    · rw [Nat.zero_add]
      have hjl := (List.getElem?_eq_some_iff.1 hj).1
      rw [bv_len, List.length_set] at hjl
      by_cases hjp : j = p
      · subst hjp
        rw [bv, List.getElem?_map, List.getElem?_set_self hjl] at hj
        rw [← hj]
        have hcur : j < cur.size := by omega
        have : (w.setCell ⟨g, j, none⟩ (.int .u8 (y.toNat : Int))).heap[g]? = some (.cells (cur.setIfInBounds j (.int .u8 (y.toNat : Int))) 5 fr) := by simp [World.setCell, Array.getElem?_modify, hg]
        rw [cell_of_row _ g j _ 5 fr this]
        simp [hcur]
      · rw [bv, List.getElem?_map, List.getElem?_set_ne (fun e => hjp e.symm), ← List.getElem?_map] at hj
        have := hc j u hj
        rw [Nat.zero_add] at this
        have h6 : (w.setCell ⟨g, p, none⟩ (.int .u8 (y.toNat : Int))).heap[g]? = some (.cells (cur.setIfInBounds p (.int .u8 (y.toNat : Int))) 5 fr) := by simp [World.setCell, Array.getElem?_modify, hg]
        rw [cell_of_row _ g j _ 5 fr h6]
        rw [cell_of_row w g j cur 5 fr hg] at this
        rw [Array.getElem?_setIfInBounds_ne (fun e => hjp e.symm)]
        exact this
set_option maxRecDepth 100000 in
set_option maxHeartbeats 4000000 in
theorem fnmagic_any (rs : List In) (n c : Nat) (A : Option Addr) (k at_ : Int) (y : UInt8) (hnc : n ≤ c) (hm : ∀ x ∈ rs, x.r.mode < 18446744073709551616) (w : World) (hl : Lies w w.heap.size A n rs) :
    Calls Try.prog 5 #[.slice A n c, .int .i64 k, .int .i64 at_, .int .u8 (y.toNat : Int)] w (Holds w) := by
  obtain ⟨rfl, hr, hd⟩ := hl
  go_enter Try.func5, Try.ntmps5
  go_wp2_with fail
  refine (fits_any rs rs.length c A rfl w hr).mono ?_
  rintro e w1 ⟨b1, rfl, hfit, hb1⟩
  cases b1
  · go_wp2
    go_ret
    exact ⟨rfl, hb1⟩
  · obtain ⟨hbig, hfx⟩ := hfit rfl
    clear hfit
    go_wp2_with fail
    refine (conv_any rs rs.length c A rfl hbig w1 ((hr.below hb1).more hb1.size)).mono ?_
    rintro e w2 ⟨v2, rfl, ho2, hb2⟩
    obtain ⟨A2, c2, rfl, hc2, hm2, hr2⟩ := ho2.shape
    have hb02 := hb1.trans (hb2.mono hb1.size)
    by_cases h20 : rs.length ≤ 20
    · go_wp2_with fail
      refine (recs_any rs rs.length c2 A2 rfl hc2 hbig hfx hm w2.heap.size w2 (Nat.le_refl _) hr2).mono ?_
      rintro e w3 ⟨b3, rfl, hgood, hb3⟩
      have hb03 := hb02.trans (hb3.mono hb02.size)
      cases b3
      · clear hgood
        go_wp2_with fail
        refine (works_any _).mono ?_
        rintro e w4 ⟨rfl, hb4⟩
        go_wp2
        go_ret
        exact ⟨rfl, hb03.trans (hb4.mono hb03.size)⟩
      · obtain ⟨h10, hgr, hpw⟩ := hgood rfl
        clear hgood
        have hsm : ∀ x ∈ rs, x.r.Small := fun x hx => (hgr x hx).small
        by_cases hk0 : k < 0
        · clear hgr hpw
          go_wp2_with fail
          refine (works_any _).mono ?_
          rintro e w9 ⟨rfl, hb9⟩
          go_wp2
          go_ret
          exact ⟨rfl, hb03.trans (hb9.mono hb03.size)⟩
        by_cases hk1 : (rs.length : Int) ≤ k
        · clear hgr hpw
          go_wp2_with fail
          refine (works_any _).mono ?_
          rintro e w9 ⟨rfl, hb9⟩
          go_wp2
          go_ret
          exact ⟨rfl, hb03.trans (hb9.mono hb03.size)⟩
        by_cases ha0 : at_ < 0
        · clear hgr hpw
          go_wp2_with fail
          refine (works_any _).mono ?_
          rintro e w9 ⟨rfl, hb9⟩
          go_wp2
          go_ret
          exact ⟨rfl, hb03.trans (hb9.mono hb03.size)⟩
        by_cases ha6 : 6 ≤ at_
        · clear hgr hpw
          go_wp2_with fail
          refine (works_any _).mono ?_
          rintro e w9 ⟨rfl, hb9⟩
          go_wp2
          go_ret
          exact ⟨rfl, hb03.trans (hb9.mono hb03.size)⟩
        obtain ⟨kn, rfl⟩ : ∃ kn : Nat, k = (kn : Int) := ⟨k.toNat, by omega⟩
        obtain ⟨an, rfl⟩ : ∃ an : Nat, at_ = (an : Int) := ⟨at_.toNat, by omega⟩
        have hkn : kn < rs.length := by omega
        have han : an < 6 := by omega
        obtain ⟨L, hL⟩ : ∃ L, L = encs (rs.map (·.r)) ++ tailRec.enc := ⟨_, rfl⟩
        have hLl : L.length ≤ 100000 := by
          have h1 := encs_len (rs.map (·.r)) (fun r hr' => by obtain ⟨x, hx, rfl⟩ := List.mem_map.1 hr'; exact hsm x hx)
          have h2 : tailRec.enc.length ≤ 200 := by decide
          rw [hL, List.length_append]
          rw [List.length_map] at h1
          omega
        have hl3 : Lies w3 w2.heap.size A2 rs.length rs := ⟨rfl, hr2.below hb3, fun x hx => ((hd x hx).below hb03).more (by have := hb02.size; omega)⟩
        obtain ⟨xk, hxk⟩ : ∃ x, rs[kn]? = some x := ⟨rs[kn], List.getElem?_eq_getElem hkn⟩
        obtain ⟨rest, hrest⟩ : ∃ rest, L = encs ((rs.take kn).map (·.r)) ++ (xk.r.enc ++ rest) := ⟨encs ((rs.drop (kn + 1)).map (·.r)) ++ tailRec.enc, by
          rw [hL]
          have e1 : rs = rs.take kn ++ xk :: rs.drop (kn + 1) := by
            have : xk = rs[kn] := by
              rw [List.getElem?_eq_getElem hkn] at hxk
              injection hxk with e
              exact e.symm
            rw [this]
            conv => lhs; rw [← List.take_append_drop kn rs, List.drop_eq_getElem_cons hkn]
          have e2 : rs.map (·.r) = (rs.take kn).map (·.r) ++ xk.r :: (rs.drop (kn + 1)).map (·.r) := by
            conv => lhs; rw [e1]
            simp
          rw [e2]
          simp [encs]⟩
        have hturn := set_run ((rs.take kn).map (·.r)) xk.r rest an y han
        obtain ⟨p, hp⟩ : ∃ p, p = an + (encs ((rs.take kn).map (·.r))).length := ⟨_, rfl⟩
        rw [← hrest, ← hp] at hturn
        have hpl : p < L.length := by
          rw [hp, hrest, List.length_append, List.length_append]
          have := xk.r.enc_len
          have := xk.r.front_len
          omega
        have HL := Lib.hid hL
        have HGR := Lib.hid hgr
        have HTN := Lib.hid hturn
        have HP := Lib.hid hp
        have q1 : decide (20 < (rs.length : Int)) = false := by simp; omega
        have q2 : decide ((kn : Int) < 0) = false := by simp
        have q3 : decide (rs.length ≤ kn) = false := by simpa using hkn
        have q4 : decide ((an : Int) < 0) = false := by simp
        have q5 : decide (6 ≤ (an : Int)) = false := by simp; omega
        clear hL hgr hpw hxk hrest hturn hp
        go_wp2_with fail
        refine (archive_any rs rs.length c2 A2 h20 hsm w2.heap.size w3 hb3.size hl3).mono ?_
        rintro e w4 ⟨A4, c4, he4, ho4, hfr4⟩
        rw [← HL.out] at he4 ho4
        subst he4
        have hb4 : Below w3.heap.size w3 w4 := hfr4.below (Nat.le_refl _)
        have hb04 := hb03.trans (hb4.mono hb03.size)
        have hl4 : Lies w4 w2.heap.size A2 rs.length rs := hl3.below (hb4.mono hb3.size)
        have hkc : kn ≤ c2 := by omega
        have hB4 : w2.heap.size ≤ w4.heap.size := Nat.le_trans hb3.size hb4.size
        go_wp2_with fail
        go_loopw [2, 53] (fun v i wr => ∃ j : Nat, j ≤ kn ∧ i = .int .i64 j ∧ v = .int .i64 ((an + (encs ((rs.take j).map (·.r))).length : Nat) : Int) ∧ Below w4.heap.size w4 wr)
          (fun _ i _ => kn - (RowKit.intOf i).toNat)
        case atStart => exact ⟨0, Nat.zero_le _, rfl, rfl, Below.refl _ _⟩
        case round =>
          obtain ⟨j, hj, rfl, rfl, hb⟩ := hrel
          obtain ⟨q, hq⟩ : ∃ q, q = an + (encs ((rs.take j).map (·.r))).length := ⟨_, rfl⟩
          rw [← hq]
          by_cases hlt : j < kn
          · obtain ⟨b, off, x, rfl, hx, hbb, hrg⟩ := in_range hl4.2.1 (hb.mono hB4) rfl (show j < rs.length by omega)
            have hxm : x ∈ rs := List.mem_of_getElem? hx
            obtain ⟨cs, hcs⟩ : ∃ cs, cs = (recCells x.r x.A x.c).toList := ⟨_, rfl⟩
            rw [← hcs] at hrg
            have hsz : cs.length = 12 := by rw [hcs]; rfl
            have hi39 : (Try.prog.info? 39).map (·.size) = some cs.length := by rw [hsz]; exact info39
            have hone : cs.toArray.all (·.oneCell') = true := by rw [hcs]; exact in_one x
            have hcall : ∀ W, Below w2.heap.size w4 W → Calls Try.prog 18 #[.agg cs.toArray] W (RetOwn W.heap.size [5] x.r.enc W) := fun W hW => by
              rw [hcs]
              exact written_any x.r (hsm x hxm).fit x.A x.c w2.heap.size W (Nat.le_trans hB4 hW.size) ((hl4.2.2 x hxm).below hW)
            have HC := Lib.hid hcall
            obtain ⟨w5, hw5⟩ : ∃ w5, w5 = (wr.alloc (.cells #[.int .u64 0, .int .u64 0, .int .u64 0, .int .u64 0, .int .u64 0, .int .u64 0, .int .u64 0, .int .u64 0, .int .u64 0, .int .u64 0, .string ⟨#[]⟩, .slice none 0 0] 39)).setRow wr.heap.size cs.toArray := ⟨_, rfl⟩
            have hbx : Blk w5 wr.heap.size 39 cs.toArray := by rw [hw5]; exact setRow_blk (Blk.new _ _ _)
            have hbw : Below wr.heap.size wr w5 := by rw [hw5]; exact ((Below.refl _ _).alloc (Nat.le_refl _) _).grown (setRow_grown _ _ _) (by simp) (fun j hj => by cases hj; exact Nat.le_refl _)
            have hrg2 : w5.rangeAt wr.heap.size 0 cs := hbx.range
            have hb5 : Below w4.heap.size w4 w5 := hb.trans (hbw.mono hb.size)
            rw [hw5] at hrg2
            have hold : (12 : Nat) = cs.toArray.size := by rw [List.size_toArray, hsz]
            have HOLD := Lib.hid hold
            have HW := Lib.hid hw5
            have HX := Lib.hid hx
            have HQ := Lib.hid hq
            have hq9 : q ≤ 100000 := by
              have h1 := encs_len ((rs.take j).map (·.r)) (fun r hr' => by obtain ⟨z, hz, rfl⟩ := List.mem_map.1 hr'; exact hsm z (List.mem_of_mem_take hz))
              rw [List.length_map, List.length_take] at h1
              omega
            have hel : x.r.enc.length ≤ 1000 := by
              have h1 := x.r.enc_len
              have h2 := x.r.front_len
              have h3 := (hsm x hxm).name
              have h4 := (hsm x hxm).data
              omega
            clear hcs hcall hw5 hsz hold hx hq
            go_wp2_with (first
              | (refine wpList_load_mid rfl 39 (.tmp 55) rfl b (off + j * 12) rfl cs _ hrg Try.underlying39 rfl hi39 ?_)
              | (refine wpList_store_row rfl 39 (.tmp 12) (.tmp 56) rfl wr.heap.size cs.toArray rfl rfl 39 _ (Blk.new _ _ _) (by simpa using hi39) HOLD.out hone ?_)
              | (refine wpList_load_mid rfl 39 (.tmp 12) rfl wr.heap.size 0 rfl cs _ hrg2 Try.underlying39 rfl hi39 ?_))
            rw [← HW.out]
            refine (HC.out _ (hb5.mono hB4)).mono ?_
            rintro e w6 ⟨A6, c6, rfl, ho6, hf6⟩
            have hb6 : Below w5.heap.size w5 w6 := hf6.below (Nat.le_refl _)
            go_wp2
            refine ⟨⟨j + 1, hlt, by go_num, ?_, hb5.trans (hb6.mono hb5.size)⟩, by simp [RowKit.intOf]; omega⟩
            have e1 : (encs ((rs.take (j + 1)).map (·.r))).length = (encs ((rs.take j).map (·.r))).length + x.r.enc.length := by
              rw [List.take_add_one, HX.out]
              simp [encs]
            rw [e1, HQ.out]
            simp only [Int.natCast_add, Int.add_assoc]
          · obtain rfl : j = kn := by omega
            rw [← HP.out] at hq
            subst hq
            have ho5 := ho4.old hb
            obtain ⟨g, rfl, hgb, hgl, hfz, hcell, hrd⟩ := ho5.turn hpl
            obtain ⟨u, hu⟩ : ∃ u, L[q]? = some u := ⟨L[q], List.getElem?_eq_getElem hpl⟩
            have hcell' : wr.cell? ⟨g, q, none⟩ = some (.int .u8 (u.toNat : Int)) := by rw [hcell, bv, List.getElem?_map, hu]; rfl
            have hpi : (q : Int) < L.length := by omega
            have hb0r := hb04.trans (hb.mono hb04.size)
            have HU := Lib.hid hu
            have HRD := Lib.hid hrd
            clear hcell hu hrd
            by_cases huy : u = y
            · subst huy
              go_wp2_with fail
              refine (works_any _).mono ?_
              rintro e w9 ⟨rfl, hb9⟩
              go_wp2
              go_ret
              exact ⟨rfl, hb0r.trans (hb9.mono hb0r.size)⟩
            · have hne : ((u.toNat : Int) == (y.toNat : Int)) = false := by
                rw [beq_eq_false_iff_ne]
                intro e
                exact huy (UInt8.toNat.inj (by omega))
              have hrd5 := ((HRD.out y).more (show wr.heap.size ≤ (wr.setCell ⟨g, q, none⟩ (.int .u8 (y.toNat : Int))).heap.size by simp))
              have hsm' : ∀ r ∈ (rs.take j).map (·.r), r.Small := fun r hr' => by obtain ⟨x, hx, rfl⟩ := List.mem_map.1 hr'; exact hsm x (List.mem_of_mem_take hx)
              have hnt' : ∀ r ∈ (rs.take j).map (·.r), r.name ≠ trailer := fun r hr' => by obtain ⟨x, hx, rfl⟩ := List.mem_map.1 hr'; exact (HGR.out x (List.mem_of_mem_take hx)).2.1.not_trailer
              have htl : Tail true ((xk.r.enc ++ rest).set an y) := .inr ⟨rfl, HTN.out.2.2.2, by
                rw [HTN.out.2.1]
                refine magic_turned an han y fun e => huy ?_
                rw [← HTN.out.2.2.1, HU.out] at e
                injection e⟩
              have hcall := parse_any true ((rs.take j).map (·.r)) ((xk.r.enc ++ rest).set an y) htl hsm' hnt' (by simp; omega) L.length c4 (some ⟨g, 0, none⟩) (L.set q y) HTN.out.1 (by simp) (by omega) (wr.setCell ⟨g, q, none⟩ (.int .u8 (y.toNat : Int))) hrd5
              have HCP := Lib.hid hcall
              have hb5r : Below w.heap.size w (wr.setCell ⟨g, q, none⟩ (.int .u8 (y.toNat : Int))) := hb0r.setCell (p := ⟨g, q, none⟩) (by have := hb03.size; show w.heap.size ≤ g; omega) _
              clear hcall hsm' hnt' htl hrd5 huy
              go_wp2_with fail
              refine HCP.out.mono ?_
              rintro e w6 ⟨hb6, hc6⟩
              rcases hc6 with ⟨_, rfl⟩ | ⟨hbd, _⟩
              rotate_left
              · cases hbd
              have hb06 := hb5r.trans (hb6.mono hb5r.size)
              go_wp2_with fail
              refine (works_any _).mono ?_
              rintro e w9 ⟨rfl, hb9⟩
              go_wp2
              go_ret
              exact ⟨rfl, hb06.trans (hb9.mono hb06.size)⟩
    · have h21 : (20 : Int) < rs.length := by omega
      go_wp2_with fail
      refine (works_any _).mono ?_
      rintro e w4 ⟨rfl, hb4⟩
      go_wp2
      go_ret
      exact ⟨rfl, hb02.trans (hb4.mono hb02.size)⟩
end Go.Proofs.Ytcecfjblgakfeaa
