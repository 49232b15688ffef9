/- The reference's test of records. -/
import Derived.Test.YtcecfjblgakfeaaS6
namespace Go.Proofs.Ytcecfjblgakfeaa
open Go.RowKit
/-- Another name and another number than all of these. -/
def Apart (l : List In) (x : In) : Prop := ∀ y ∈ l, y.r.name ≠ x.r.name ∧ y.r.ino ≠ x.r.ino
/-- What is known of records that the reference takes. -/
def GoodRecs (rs : List In) : Prop := rs.length ≤ 10 ∧ (∀ x ∈ rs, GoodRec x.r) ∧ rs.Pairwise fun y x => y.r.name ≠ x.r.name ∧ y.r.ino ≠ x.r.ino
theorem pair_snoc {l : List In} {x : In} (h : l.Pairwise fun y x => y.r.name ≠ x.r.name ∧ y.r.ino ≠ x.r.ino) (ha : Apart l x) : (l ++ [x]).Pairwise fun y x => y.r.name ≠ x.r.name ∧ y.r.ino ≠ x.r.ino := by
  rw [List.pairwise_append]
  exact ⟨h, by simp, fun y hy z hz => by rw [List.mem_singleton.1 hz]; exact ha y hy⟩
theorem info39 : (Try.prog.info? 39).map (·.size) = some 12 := by kernel_rfl
set_option maxRecDepth 100000 in
set_option maxHeartbeats 1000000 in
theorem recs_any (rs : List In) (n c : Nat) (A : Option Addr) (hn : n = rs.length) (hnc : n ≤ c) (hbig : rs.length ≤ 2147483647) (hf : ∀ x ∈ rs, Fits x) (hm : ∀ x ∈ rs, x.r.mode < 18446744073709551616) (B : Nat) (w : World) (hB : B ≤ w.heap.size) (hr : Rd w B 12 A n (inCells rs)) :
    Calls Try.prog 10 #[.slice A n c] w (FitsAns (GoodRecs rs) w) := by
  subst hn
  go_enter Try.func10, Try.ntmps10
  go_wp2
  go_loopw [9] (fun i wr => ∃ k : Nat, k ≤ rs.length ∧ i = .int .i64 k ∧ (∀ x ∈ rs.take k, GoodRec x.r) ∧ ((rs.take k).Pairwise fun y x => y.r.name ≠ x.r.name ∧ y.r.ino ≠ x.r.ino) ∧ Below w.heap.size w wr)
    (fun i _ => rs.length - (RowKit.intOf i).toNat)
  case atStart => exact ⟨0, Nat.zero_le _, rfl, (by simp), (by simp), Below.refl _ _⟩
  case round =>
    obtain ⟨k, hk, rfl, hgood, hpair, hb⟩ := hrel
    by_cases hlt : k < rs.length
    · obtain ⟨b, off, x, rfl, hx, hbb, hrg⟩ := in_range hr (hb.mono hB) rfl hlt
      have hxm : x ∈ rs := List.mem_of_getElem? hx
      have hfx := hf x hxm
      have hmx := hm x hxm
      obtain ⟨cs, hcs⟩ : ∃ cs, cs = (recCells x.r x.A x.c).toList := ⟨_, rfl⟩
      rw [← hcs] at hrg
      have hsz : cs.length = 12 := by rw [hcs]; rfl
      have hi39 : (Try.prog.info? 39).map (·.size) = some cs.length := by rw [hsz]; exact info39
      have hone : cs.toArray.all (·.oneCell') = true := by rw [hcs]; exact in_one x
      have hcall : ∀ W, Calls Try.prog 21 #[.agg cs.toArray] W (FitsAns (GoodRec x.r) W) := fun W => by rw [hcs]; exact proper_any x hfx hmx W
      have HC := Lib.hid hcall
      obtain ⟨w1, hw1⟩ : ∃ w1, w1 = (wr.alloc (.cells #[.int .u64 0, .int .u64 0, .int .u64 0, .int .u64 0, .int .u64 0, .int .u64 0, .int .u64 0, .int .u64 0, .int .u64 0, .int .u64 0, .string ⟨#[]⟩, .slice none 0 0] 39)).setRow wr.heap.size cs.toArray := ⟨_, rfl⟩
      have hbx : Blk w1 wr.heap.size 39 cs.toArray := by rw [hw1]; exact setRow_blk (Blk.new _ _ _)
      have hbw : Below wr.heap.size wr w1 := by rw [hw1]; exact ((Below.refl _ _).alloc (Nat.le_refl _) _).grown (setRow_grown _ _ _) (by simp) (fun j hj => by cases hj; exact Nat.le_refl _)
      have hrg2 : w1.rangeAt wr.heap.size 0 cs := fun j v hv => by rw [Nat.zero_add, hbx.cell]; simpa using hv
      rw [hw1] at hrg2
      have HCS := Lib.hid hcs
      have HW := Lib.hid hw1
      have HG := Lib.hid hgood
      have HP := Lib.hid hpair
      clear hcs hcall hw1 hgood hpair hfx hmx
      go_wp2_with (first
        | (refine wpList_load_mid rfl 39 (.tmp 12) rfl b (off + k * 12) rfl cs _ hrg Try.underlying39 rfl hi39 ?_)
        | (refine wpList_store_row rfl 39 (.tmp 4) (.tmp 13) rfl wr.heap.size cs.toArray rfl rfl 39 _ (Blk.new _ _ _) (by simpa using hi39) (by simp [hsz]) hone ?_)
        | (refine wpList_load_mid rfl 39 (.tmp 4) rfl wr.heap.size 0 rfl cs _ hrg2 Try.underlying39 rfl hi39 ?_)
        | (go_at_call 21
           rw [← HW.out]
           refine (HC.out _).mono ?_
           rintro e w2 ⟨bb, rfl, hbb2, hb2⟩
           have hb12 := hbw.trans (hb2.mono hbw.size)
           have hbs := hb.trans (hb12.mono hb.size)
           have hx2 : Blk w2 wr.heap.size 39 (recCells x.r x.A x.c) := by
             have := hbx.old hb2
             rw [HCS.out] at this
             exact this
           have HBB := Lib.hid hbb2
           clear hbb2 hrg2))
      · go_ret
        exact ⟨false, rfl, (fun h => by cases h), hbs⟩
      · have hbt : (!bb) = false := by assumption
        have hbt : bb = true := by simpa using hbt
        have hbc := hx2.cell
        go_loopw [21] (fun i wr => ∃ j : Nat, j ≤ k ∧ i = .int .i64 j ∧ Apart (rs.take j) x ∧ Below w2.heap.size w2 wr)
          (fun i _ => k - (RowKit.intOf i).toNat)
        case atStart => exact ⟨0, Nat.zero_le _, rfl, (by simp [Apart]), Below.refl _ _⟩
        case round =>
          obtain ⟨j, hj, rfl, hap, hbq⟩ := hrel
          have hx3 := hx2.old hbq
          have hall := hbs.trans (hbq.mono hbs.size)
          by_cases hjk : j < k
          · obtain ⟨b', off', y, e, hy, hbb', hrg'⟩ := in_range (k := j) hr (hall.mono hB) rfl (by omega)
            injection e with e
            injection e with e1 e2
            subst e1
            subst e2
            obtain ⟨cs', hcs'⟩ : ∃ cs', cs' = (recCells y.r y.A y.c).toList := ⟨_, rfl⟩
            rw [← hcs'] at hrg'
            have hsz' : cs'.length = 12 := by rw [hcs']; rfl
            have hi39' : (Try.prog.info? 39).map (·.size) = some cs'.length := by rw [hsz']; exact info39
            have hone' : cs'.toArray.all (·.oneCell') = true := by rw [hcs']; exact in_one y
            obtain ⟨w3, hw3⟩ : ∃ w3, w3 = (wr.alloc (.cells #[.int .u64 0, .int .u64 0, .int .u64 0, .int .u64 0, .int .u64 0, .int .u64 0, .int .u64 0, .int .u64 0, .int .u64 0, .int .u64 0, .string ⟨#[]⟩, .slice none 0 0] 39)).setRow wr.heap.size cs'.toArray := ⟨_, rfl⟩
            have hy3 : Blk w3 wr.heap.size 39 (recCells y.r y.A y.c) := by
              rw [hw3, hcs']
              exact setRow_blk (Blk.new _ _ _)
            have hbw3 : Below wr.heap.size wr w3 := by rw [hw3]; exact ((Below.refl _ _).alloc (Nat.le_refl _) _).grown (setRow_grown _ _ _) (by simp) (fun j hj => by cases hj; exact Nat.le_refl _)
            have hx4 := hx3.old hbw3
            have hb23 := hbq.trans (hbw3.mono hbq.size)
            have hcy := hy3.cell
            have hcx := hx4.cell
            rw [hw3] at hcy hcx hb23
            have hall3 := hbs.trans (hb23.mono hbs.size)
            have HAP := Lib.hid hap
            clear hw3 hcs' hy3 hx4 hx3 hbc hap
            by_cases h1 : y.r.name = x.r.name
            · have h1' : (y.r.name == x.r.name) = true := by simp [h1]
              clear h1
              go_wp2_with (first
                | (refine wpList_load_mid rfl 39 (.tmp 23) rfl b (off + j * 12) rfl cs' _ hrg' Try.underlying39 rfl hi39' ?_)
                | (refine wpList_store_row rfl 39 (.tmp 6) (.tmp 24) rfl wr.heap.size cs'.toArray rfl rfl 39 _ (Blk.new _ _ _) (by simpa using hi39') (by simp [hsz']) hone' ?_))
              go_ret
              exact ⟨false, rfl, (fun h => by cases h), hall3⟩
            · have h1' : (y.r.name == x.r.name) = false := by simp [h1]
              have H1 := Lib.hid h1
              clear h1
              go_wp2_with (first
                | (refine wpList_load_mid rfl 39 (.tmp 23) rfl b (off + j * 12) rfl cs' _ hrg' Try.underlying39 rfl hi39' ?_)
                | (refine wpList_store_row rfl 39 (.tmp 6) (.tmp 24) rfl wr.heap.size cs'.toArray rfl rfl 39 _ (Blk.new _ _ _) (by simpa using hi39') (by simp [hsz']) hone' ?_))
              · go_ret
                exact ⟨false, rfl, (fun h => by cases h), hall3⟩
              · have h2 : ((y.r.ino : Int) == (x.r.ino : Int)) = false := by assumption
                refine ⟨⟨_, _, _, ⟨j + 1, by omega, by go_num, ?_⟩, rfl, rfl, rfl⟩, by simp [RowKit.intOf]; omega⟩
                intro z hz
                rw [List.take_add_one, hy] at hz
                rcases List.mem_append.1 hz with hz | hz
                · exact HAP.out z hz
                · have hz' : z = y := by simpa using hz
                  rw [hz']
                  exact ⟨H1.out, fun e => by rw [e] at h2; simp at h2⟩
          · obtain rfl : j = k := by omega
            have HAP := Lib.hid hap
            clear hap
            go_wp2
            have etk : rs.take (j + 1) = rs.take j ++ [x] := by rw [List.take_add_one, hx]; rfl
            refine ⟨⟨j + 1, by omega, by go_num, ?_, ?_, hall⟩, by simp [RowKit.intOf]; omega⟩
            · rw [etk]
              intro y hy
              rcases List.mem_append.1 hy with hy | hy
              · exact HG.out y hy
              · rw [List.mem_singleton.1 hy]
                exact HBB.out hbt
            · rw [etk]
              exact pair_snoc HP.out HAP.out
    · obtain rfl : k = rs.length := by omega
      rw [List.take_length] at hgood hpair
      go_wp2
      go_ret
      exact ⟨_, rfl, (fun h => ⟨by simp at h; omega, hgood, hpair⟩), hb⟩
end Go.Proofs.Ytcecfjblgakfeaa
