/- The reference reads an archive's records. -/
import Derived.Test.YtcecfjblgakfeaaS8
import Derived.Test.YtcecfjblgakfeaaF19
namespace Go.Proofs.Ytcecfjblgakfeaa
open Go.RowKit
/-- What the reference reads: the records, and that it is an archive. -/
def ReadAns (rs : List Rec) (B : Nat) (w : World) (e : Ending) (w' : World) : Prop :=
  ∃ v ins, e = .returned (.tuple #[v, .bool true]) ∧ Own w' w.heap.size 39 12 v rs.length (inCells ins) ∧ ins.map (·.r) = rs ∧ (∀ x ∈ ins, Rd w' B 1 x.A x.r.data.length (bv x.r.data)) ∧ Below w.heap.size w w'
set_option maxRecDepth 100000 in
set_option maxHeartbeats 4000000 in
theorem read_any (rs : List Rec) (tl : Rec) (htl : tl.name = trailer) (hts : tl.Small) (hsm : ∀ r ∈ rs, r.Small) (hnt : ∀ r ∈ rs, r.name ≠ trailer) (n c B : Nat) (A : Option Addr) (hn : n = (encs rs ++ tl.enc).length) (hnc : n ≤ c) (hcm : c ≤ maxLen) (hn9 : n ≤ 1000000) (hrs : rs.length ≤ 1000) (w : World) (hB : B ≤ w.heap.size)
    (hr : Rd w B 1 A n (bv (encs rs ++ tl.enc))) :
    Calls Try.prog 13 #[.slice A n c] w (ReadAns rs B w) := by
  go_enter Try.func13, Try.ntmps13
  go_wp2
  go_loopw [0, 4] (fun b v wr => ∃ (k : Nat) (A : Option Addr) (m c : Nat) (ins : List In), b = .slice A m c ∧ m = (encs (rs.drop k) ++ tl.enc).length ∧ m ≤ c ∧ m ≤ n ∧ c ≤ maxLen ∧ k ≤ rs.length ∧ Rd wr B 1 A m (bv (encs (rs.drop k) ++ tl.enc)) ∧ Own wr w.heap.size 39 12 v k (inCells ins) ∧ ins.map (·.r) = rs.take k ∧ (∀ x ∈ ins, Rd wr B 1 x.A x.r.data.length (bv x.r.data)) ∧ Below w.heap.size w wr)
    (fun b _ _ => lenV b)
  case atStart => exact ⟨0, A, n, c, [], rfl, hn, hnc, Nat.le_refl _, hcm, Nat.zero_le _, hr, Own.nil_ _ _ _ _, rfl, fun x hx => (List.not_mem_nil hx).elim, Below.refl _ _⟩
  case round =>
    obtain ⟨k, A, m, c, ins, rfl, hm, hmc, hmn, hcm, hk, hrd, hown, hins, hdat, hbl⟩ := hrel
    obtain ⟨cur, rest, hcur, hD⟩ : ∃ cur rest, (cur.Small ∧ ((k < rs.length ∧ rs[k]? = some cur ∧ rest = encs (rs.drop (k + 1)) ++ tl.enc) ∨ (k = rs.length ∧ cur = tl ∧ rest = []))) ∧ encs (rs.drop k) ++ tl.enc = cur.enc ++ rest := by
      rcases Nat.lt_or_ge k rs.length with h | h
      · refine ⟨rs[k], encs (rs.drop (k + 1)) ++ tl.enc, ⟨hsm _ (List.getElem_mem h), .inl ⟨h, List.getElem?_eq_getElem h, rfl⟩⟩, ?_⟩
        rw [List.drop_eq_getElem_cons h, ← List.append_assoc]
        rfl
      · obtain rfl : k = rs.length := by omega
        exact ⟨tl, [], ⟨hts, .inr ⟨rfl, rfl, rfl⟩⟩, by simp [encs]⟩
    rw [hD] at hm hrd
    obtain ⟨hcs, hcase⟩ := hcur
    have hel := cur.enc_len
    have hfl := cur.front_len
    have hm110 : 110 ≤ m := by rw [hm, List.length_append, hel]; omega
    have hm6 : (110 : Int) ≤ m := by omega
    have hcut := hrd.cut (k := 0) (h := 6) (cap := c) (by omega) (by omega) hmc
    simp only [List.drop_zero, Nat.sub_zero, Nat.mul_one] at hcut
    rw [bv_take, enc_magic] at hcut
    obtain ⟨b, off, rfl, hbb, hcell⟩ := hrd.2 (by omega)
    have hcv := run_str (P := Try.prog) wr 28 9 5 B _ 6 c magic Try.underlying28 Try.underlying5 Try.underlying9 hcut
    have hc6 : ¬ c = 0 := by omega
    simp only [if_neg hc6, Option.map_some, add_lit, Nat.add_zero] at hcv
    have hc6i : (6 : Int) ≤ c := by omega
    have HD := Lib.hid hD
    have HM := Lib.hid hm
    have HCASE := Lib.hid hcase
    clear hD hm hcase hcut hel hfl
    go_wp2
    have hmag : (magic == [48, 55, 48, 55, 48, 49]) = true := rfl
    simp only [hmag]
    clear hcv hc6 hc6i hm6 hmag
    obtain ⟨w0, rfl⟩ : ∃ w0, w0 = wr := ⟨wr, rfl⟩
    have hbw0 : b < w0.heap.size := by have := hbl.size; omega
    have hb1 : Below w0.heap.size w0 (w0.alloc (.cells #[.int .u64 0, .int .u64 0, .int .u64 0, .int .u64 0, .int .u64 0, .int .u64 0, .int .u64 0, .int .u64 0, .int .u64 0, .int .u64 0, .int .u64 0, .int .u64 0, .int .u64 0] 60)) := (Below.refl _ _).alloc (Nat.le_refl _) _
    go_loopw [22] (fun i wq => ∃ t : Nat, t ≤ 13 ∧ i = .int .i64 t ∧ Blk wq w0.heap.size 60 (nv (nst cur.nums t 0)) ∧ Below w0.heap.size w0 wq)
      (fun i _ => 13 - (RowKit.intOf i).toNat)
    case atStart => exact ⟨0, by omega, rfl, by rw [nst_zero]; exact Blk.new _ _ _, hb1⟩
    case round =>
      obtain ⟨t, ht, rfl, hblk, hbq⟩ := hrel
      by_cases ht13 : t < 13
      · have htn : cur.nums[t]? = some (cur.nums.getD t 0) := by
          have : t < cur.nums.length := ht13
          simp [List.getD, List.getElem?_eq_getElem this]
        obtain ⟨N, hN⟩ : ∃ N, N = cur.nums.getD t 0 := ⟨_, rfl⟩
        rw [← hN] at htn
        have hmi : (110 : Int) ≤ m := by omega
        have hci : (110 : Int) ≤ c := by omega
        go_wp2
        have e8 : 14 + 8 * t - (6 + 8 * t) = 8 := by omega
        have hdt : decide ((t : Int) < 13) = true := by simp; omega
        simp only [e8, hdt, Int.cast_ofNat_Int]
        have hNl : N < 4294967296 := nums_small cur hcs N (List.mem_of_getElem? htn)
        clear hmi hci hb1
        go_loopw [34] (fun i wq => ∃ j : Nat, j ≤ 8 ∧ i = .int .i64 j ∧ Blk wq w0.heap.size 60 (nv (nst cur.nums t (N / 16 ^ (8 - j) % 16 ^ j))) ∧ Below w0.heap.size w0 wq)
          (fun i _ => 8 - (RowKit.intOf i).toNat)
        case atStart => exact ⟨0, by omega, rfl, by simpa [Nat.mod_one] using hblk, hbq⟩
        case round =>
          obtain ⟨j, hj, rfl, hblk2, hbq2⟩ := hrel
          by_cases hj8 : j < 8
          · obtain ⟨P, hP⟩ : ∃ P, P = N / 16 ^ (8 - j) % 16 ^ j := ⟨_, rfl⟩
            obtain ⟨d, hd⟩ : ∃ d, d = N / 16 ^ (7 - j) % 16 := ⟨_, rfl⟩
            rw [← hP] at hblk2
            have hd16 : d < 16 := by rw [hd]; exact Nat.mod_lt _ (by omega)
            have hPl : P < 268435456 := by
              rw [hP]
              refine Nat.lt_of_lt_of_le (Nat.mod_lt _ (Nat.pow_pos (by omega))) ?_
              exact Nat.le_trans (Nat.pow_le_pow_right (by omega) (show j ≤ 7 by omega)) (by decide)
            have hcn : wr.cell? ⟨w0.heap.size, t, none⟩ = some (.int .u64 (P : Int)) := by
              rw [hblk2.cell]
              exact nv_at _ _ _ (nst_at _ _ _ ht13)
            have hfz := hblk2.frozen t
            have hdg := enc_digit cur rest t j N htn hj8
            rw [← hd] at hdg
            have hor := or16 P d (by omega) hd16
            rw [Int.natCast_mul] at hor
            have hst := high_step N 8 j hj8
            rw [show 8 - 1 - j = 7 - j by omega, ← hP, ← hd] at hst
            have hset := hblk2.set_ t (.int .u64 ((P * 16 + d : Nat) : Int))
            rw [nv_set, nst_set] at hset
            have hset2 : Blk (wr.setCell ⟨w0.heap.size, t, none⟩ (.int .u64 ((P * 16 + d : Nat) : Int))) w0.heap.size 60 (nv (nst cur.nums t (N / 16 ^ (8 - (j + 1)) % 16 ^ (j + 1)))) := by rw [← hst]; exact hset
            have HST := Lib.hid hset2
            have hcd0 : wr.cell? ⟨b, off + (6 + 8 * t) + j, none⟩ = some (.int .u8 ((dig d).toNat : Int)) := by
              rw [Nat.add_assoc]
              exact (hbq2.cell (by exact hbw0)).trans (hcell _ _ (by rw [bv, List.getElem?_map, hdg]; rfl))
            rw [dig_nat d hd16] at hcd0
            clear hset hset2 hst
            have hHP := Lib.hid hP
            have hHd := Lib.hid hd
            have HN := Lib.hid hN
            clear hP hd hN
            by_cases hd10 : d < 10
            · rw [if_pos hd10] at hcd0
              go_wp2
              go_roundw
              case rel =>
                rw [show (48 + (d : Int) - 48) = d by omega]
                rw [show ((16 : Nat) : Int) = 16 from rfl] at hor
                rw [hor]
                exact ⟨j + 1, by omega, by go_num, HST.out, hbq2.setCell (Nat.le_refl _) _⟩
              case measure => simp [RowKit.intOf]; omega
            · rw [if_neg hd10] at hcd0
              go_wp2
              go_roundw
              case rel =>
                rw [show (55 + (d : Int) - 65 + 10) = d by omega]
                rw [show ((16 : Nat) : Int) = 16 from rfl] at hor
                rw [hor]
                exact ⟨j + 1, by omega, by go_num, HST.out, hbq2.setCell (Nat.le_refl _) _⟩
              case measure => simp [RowKit.intOf]; omega
          · obtain rfl : j = 8 := by omega
            have hfin : Blk wr w0.heap.size 60 (nv (nst cur.nums (t + 1) 0)) := by
              rw [← nst_next, ← hN]
              rw [Nat.sub_self, Nat.pow_zero, Nat.div_one, Nat.mod_eq_of_lt (by omega)] at hblk2
              exact hblk2
            have HF := Lib.hid hfin
            clear hfin hblk2 hN htn
            go_wp2
            exact ⟨⟨t + 1, by omega, by go_num, HF.out, hbq2⟩, by simp [RowKit.intOf]; omega⟩
      · obtain rfl : t = 13 := by omega
        obtain ⟨nl, hnl⟩ : ∃ nl, nl = cur.name.length := ⟨_, rfl⟩
        obtain ⟨dl, hdl⟩ : ∃ dl, dl = cur.data.length := ⟨_, rfl⟩
        have hcells : Blk wr w0.heap.size 60 #[.int .u64 cur.ino, .int .u64 cur.mode, .int .u64 cur.uid, .int .u64 cur.gid, .int .u64 cur.nlink, .int .u64 cur.mtime, .int .u64 dl, .int .u64 cur.major, .int .u64 cur.minor, .int .u64 cur.rmajor, .int .u64 cur.rminor, .int .u64 ((nl : Int) + 1), .int .u64 0] := by
          rw [nst_all] at hblk
          rw [hdl, hnl]
          exact hblk
        have hbc := hcells.cell
        have hnl9 : nl ≤ 100 := by rw [hnl]; exact hcs.name
        have hdl9 : dl ≤ 300 := by rw [hdl]; exact hcs.data
        obtain ⟨f, hf⟩ : ∃ f, f = cur.front.length := ⟨_, rfl⟩
        obtain ⟨E, hE⟩ : ∃ E, E = cur.enc.length := ⟨_, rfl⟩
        have hfl := cur.front_len
        have hel := cur.enc_len
        have hmE : m = E + rest.length := by rw [HM.out, List.length_append, hE]
        have hF : ((110 + ((nl : Int) + 1) + 3) / 4 * 4) = (f : Int) := by omega
        have hE2 : (((f : Int) + dl + 3) / 4 * 4) = (E : Int) := by omega
        have hEm : (E : Int) ≤ m := by omega
        have hfE : f + dl ≤ E := by omega
        have hfn : 111 + nl ≤ f := by omega
        have hfEi : (f : Int) + dl ≤ m := by omega
        have hfi : 111 + (nl : Int) ≤ f := by omega
        have hnl9i : (nl : Int) ≤ 100 := by omega
        have hdl9i : (dl : Int) ≤ 300 := by omega
        have hmci : (m : Int) ≤ c := by omega
        have hmni : (m : Int) ≤ 1000000 := by omega
        have HNL := Lib.hid hnl
        have HDL := Lib.hid hdl
        have HF := Lib.hid hf
        have HE := Lib.hid hE
        have HME := Lib.hid hmE
        clear hnl hdl hblk hb1 hf hE hfl hel hmE
        go_wp2
        · exfalso
          have hx : ((((nl : Int) + 1 == 0) = true ∨ 10000 < (nl : Int) + 1) ∨ 100000 < (dl : Int)) ∨ m < E := by assumption
          simp only [beq_iff_eq] at hx
          omega
        · obtain ⟨q, hq⟩ : ∃ q, q = 110 + nl := ⟨_, rfl⟩
          obtain ⟨g, hg⟩ : ∃ g, g = f + dl := ⟨_, rfl⟩
          obtain ⟨A', hA'⟩ : ∃ A', (if c = f then (some ⟨b, off, none⟩ : Option Addr) else some ⟨b, off + f, none⟩) = A' := ⟨_, rfl⟩
          have hwq : IntKind.u64.wrap (109 + ((nl : Int) + 1)) = (q : Int) := by rw [IntKind.wrap_u64]; omega
          have hwg : IntKind.i64.wrap ((f : Int) + (dl : Int)) = (g : Int) := by rw [IntWalk.i64_in _ (by omega)]; omega
          have hrw : Rd wr B 1 (some ⟨b, off, none⟩) m (bv (cur.enc ++ rest)) := hrd.below (hbq.mono (by have := hbl.size; omega))
          have hcut1 := hrw.cut (k := 110) (h := q) (cap := c) (by omega) (by omega) hmc
          have hcut2 := hrw.cut (k := f) (h := g) (cap := c) (by omega) (by omega) hmc
          rw [Nat.mul_one, Nat.mul_one, bv_drop, bv_take, show q - 110 = cur.name.length by rw [← HNL.out]; omega, enc_name, if_neg (by omega), Option.map_some, add_lit, ← HNL.out] at hcut1
          rw [Nat.mul_one, Nat.mul_one, bv_drop, bv_take, HF.out, show g - cur.front.length = cur.data.length by rw [← HDL.out, ← HF.out]; omega, enc_data, ← HF.out, ← HDL.out, Option.map_some, add_lit, hA'] at hcut2
          have hq3 : nl = q - 110 := by omega
          have hcv := fun W (hW : Below B wr W) => run_str (P := Try.prog) W 28 9 5 B _ (q - 110) (c - 110) cur.name Try.underlying28 Try.underlying5 Try.underlying9 (hq3 ▸ hcut1.below hW)
          have hq1 : (110 : Int) ≤ q := by omega
          have hq2 : (q : Int) ≤ c := by omega
          have hg1 : (f : Int) ≤ g := by omega
          have hg2 : (g : Int) ≤ c := by omega
          have hf0 : (0 : Int) ≤ f := by omega
          have hs3 : IntKind.i64.wrap (dl : Int) = (dl : Int) := IntWalk.i64_in _ (by omega)
          have hc110 : ¬ c = 110 := by omega
          have hwrB : B ≤ wr.heap.size := by have := hbl.size; have := hbq.size; omega
          have hcvG := fun o => hcv (wr.alloc o).drew (below_drewN ((Below.refl _ _).alloc hwrB _) 1)
          have hcG := fun o => (hcells.alloc o).drew.cell
          have hcvD := hcv _ (below_drewN (Below.refl B wr) 1)
          have HQ := Lib.hid hq
          have HQ3 := Lib.hid hq3
          have HG := Lib.hid hg
          clear hq hg hq3 hF hE2 hfEi hfi
          go_region_held3 (fun w' => (∀ i, w'.cell? ⟨w0.heap.size, i, none⟩ = (#[.int .u64 cur.ino, .int .u64 cur.mode, .int .u64 cur.uid, .int .u64 cur.gid, .int .u64 cur.nlink, .int .u64 cur.mtime, .int .u64 dl, .int .u64 cur.major, .int .u64 cur.minor, .int .u64 cur.rmajor, .int .u64 cur.rminor, .int .u64 ((nl : Int) + 1), .int .u64 0] : Array Value)[i]?) ∧ (convert 28 9 (.slice (some ⟨b, off + 110, none⟩) (q - 110) (c - 110))).run Try.prog w' = .ok (.string ⟨cur.name.toArray⟩) w') (first | exact ⟨hbc, hcvD⟩ | exact ⟨hcG _, hcvG _⟩) (fail)
          clear hcG hcvG hcvD hcv hwq hwg hA' hq1 hq2 hg1 hg2
          have hgf : g - f = cur.data.length := by rw [HG.out, ← HDL.out]; omega
          simp only [hgf]
          obtain ⟨w2, hw2⟩ : ∃ w2, w2 = (wr.alloc (.cells (recCells cur A' (c - f)) 39)).drew := ⟨_, rfl⟩
          have hx2 : Blk w2 wr.heap.size 39 (recCells cur A' (c - f)) := by rw [hw2]; exact (Blk.new _ _ _).drew
          have hb2 : Below wr.heap.size wr w2 := by rw [hw2]; exact below_drewN ((Below.refl _ _).alloc (Nat.le_refl _) _) 1
          have hb02 : Below w0.heap.size w0 w2 := hbq.trans (hb2.mono hbq.size)
          have hbw2 : Below w.heap.size w w2 := hbl.trans (hb02.mono hbl.size)
          have hx2c := hx2.cell
          rw [← hw2]
          have hown2 := hown.old hb02
          have hdat2 : ∀ x ∈ ins, Rd w2 B 1 x.A x.r.data.length (bv x.r.data) := fun x hx => (hdat x hx).below (hb02.mono (by have := hbl.size; omega))
          have hwrB2 : B ≤ wr.heap.size := by have := hbl.size; have := hbq.size; omega
          have hcur2 : Rd w2 B 1 A' cur.data.length (bv cur.data) := by
            rw [← HDL.out]
            exact hcut2.below (hb2.mono hwrB2)
          have hrd2 : Rd w2 B 1 (some ⟨b, off, none⟩) m (bv (cur.enc ++ rest)) := hrw.below (hb2.mono hwrB2)
          have hcut3 := hrd2.cut (k := E) (h := m) (cap := c) (by omega) (Nat.le_refl _) hmc
          have hrl : m - E = rest.length := by rw [HME.out]; omega
          rw [Nat.mul_one, Nat.mul_one, bv_drop, bv_take, HE.out, enc_rest, ← HE.out, hrl, List.take_length, Option.map_some, add_lit] at hcut3
          obtain ⟨A2, hA2⟩ : ∃ A2, (if c = E then (some ⟨b, off, none⟩ : Option Addr) else some ⟨b, off + E, none⟩) = A2 := ⟨_, rfl⟩
          rw [hA2] at hcut3
          have hE0 : 0 < E := by omega
          have hown3 := hown2.alloc (.cells (recCells cur A' (c - f)) 39)
          have hnew := new_in w2 ⟨cur, A', c - f⟩ 39
          have hsz2 := hbw2.size
          have hsz3 : w.heap.size ≤ (w2.alloc (.cells (recCells cur A' (c - f)) 39)).heap.size := by simp; omega
          have HBB := Lib.hid hsz3
          have HRL := Lib.hid hrl
          have HGF := Lib.hid hgf
          clear hw2 hcut1 hcut2 hcells hbc hx2 hrl hsz3 hgf hrw hrd hcell hc110 hs3
          rcases HCASE.out with ⟨hlt, hk1, hrest⟩ | ⟨hkl, hct, hre⟩
          · have hne : cur.name ≠ trailer := hnt cur (List.mem_of_getElem? hk1)
            have hname : (cur.name == [84, 82, 65, 73, 76, 69, 82, 33, 33, 33]) = false := by
              show (cur.name == trailer) = false
              simpa using hne
            have HR := Lib.hid hrest
            have HK := Lib.hid hk1
            clear hne hrest hk1
            go_wp2_with (
               at_builtin
               refine wpList_app39 _ rfl (.tmp 153) (.tmp 155) rfl w.heap.size u4 ins ⟨cur, A', c - f⟩ k rfl hown3 (w2.heap.size + 1) _ 1 rfl hnew (by omega) HBB.out ?_
               intro v' w3 hown4 hg4 hat4)
            have hbw3 : Below w.heap.size w2 w3 := ((Below.refl w.heap.size w2).alloc hsz2 _).grown hg4 HBB.out (fun j hj => (hown3.lt j hj).1)
            have hrel2 : ∃ (k' : Nat) (A : Option Addr) (m' c' : Nat) (ins : List In), (Value.slice A2 (m - E) (c - E)) = .slice A m' c' ∧ m' = (encs (rs.drop k') ++ tl.enc).length ∧ m' ≤ c' ∧ m' ≤ n ∧ c' ≤ maxLen ∧ k' ≤ rs.length ∧ Rd w3 B 1 A m' (bv (encs (rs.drop k') ++ tl.enc)) ∧ Own w3 w.heap.size 39 12 v' k' (inCells ins) ∧ ins.map (·.r) = rs.take k' ∧ (∀ x ∈ ins, Rd w3 B 1 x.A x.r.data.length (bv x.r.data)) ∧ Below w.heap.size w w3 := by
              refine ⟨k + 1, A2, m - E, c - E, ins ++ [⟨cur, A', c - f⟩], rfl, ?_, by omega, by omega, by omega, hlt, ?_, hown4, ?_, ?_, hbw2.trans hbw3⟩
              · rw [HRL.out, HR.out]
              · rw [← HR.out, HRL.out]
                exact hcut3.below (hbw3.mono hB)
              · rw [List.map_append, hins, List.take_add_one, HK.out]
                rfl
              · intro x hx
                rcases List.mem_append.1 hx with hx | hx
                · exact (hdat2 x hx).below (hbw3.mono hB)
                · rw [List.mem_singleton.1 hx]
                  exact hcur2.below (hbw3.mono hB)
            exact ⟨hrel2, by simp only [lenV]; omega⟩
          · have hname : (cur.name == [84, 82, 65, 73, 76, 69, 82, 33, 33, 33]) = true := by
              rw [hct, htl]
              rfl
            clear hct hre
            go_wp2
            go_ret2
            exact ⟨_, ins, rfl, hkl ▸ hown2, by rw [hins, hkl, List.take_length], hdat2, hbw2⟩
end Go.Proofs.Ytcecfjblgakfeaa
