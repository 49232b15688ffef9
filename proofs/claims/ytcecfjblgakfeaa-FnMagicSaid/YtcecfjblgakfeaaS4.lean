/- The reference's test of lengths. -/
import Derived.Test.YtcecfjblgakfeaaF16
namespace Go.Proofs.Ytcecfjblgakfeaa
open Go.RowKit
/-- What the test of a record's lengths answers. -/
def Fits (x : In) : Prop := x.r.name.length ≤ 2147483647 ∧ x.r.data.length ≤ 2147483647
def FitsAns (p : Prop) (w : World) (e : Ending) (w' : World) : Prop := ∃ b, e = .returned (.bool b) ∧ (b = true → p) ∧ Below w.heap.size w w'
set_option maxRecDepth 100000 in
set_option maxHeartbeats 400000 in
theorem fits2_any (x : In) (w : World) : Calls Try.prog 20 #[.agg (recCells x.r x.A x.c)] w (FitsAns (Fits x) w) := by
  have hbox := Blk.new w 44 (recCells x.r x.A x.c)
  have hbc := hbox.cell
  by_cases h1 : x.r.name.length ≤ 2147483647
  · by_cases h2 : x.r.data.length ≤ 2147483647
    · go_enter Try.func20, Try.ntmps20
      go_wp2
      all_goals go_ret
      all_goals exact ⟨_, rfl, (fun _ => ⟨h1, h2⟩), (Below.refl _ _).alloc (Nat.le_refl _) _⟩
    · have h3 : (2147483647 : Int) < x.r.data.length := by omega
      go_enter Try.func20, Try.ntmps20
      go_wp2
      all_goals go_ret
      all_goals exact ⟨_, rfl, (fun h => by cases h), (Below.refl _ _).alloc (Nat.le_refl _) _⟩
  · have h3 : (2147483647 : Int) < x.r.name.length := by omega
    go_enter Try.func20, Try.ntmps20
    go_wp2
    all_goals go_ret
    all_goals exact ⟨_, rfl, (fun h => by cases h), (Below.refl _ _).alloc (Nat.le_refl _) _⟩
/-- A slice of records that came in: where element k lies. -/
theorem in_range {w wr : World} {B n k : Nat} {A : Option Addr} {rs : List In} (hr : Rd w B 12 A n (inCells rs)) (hb : Below B w wr) (hn : n = rs.length) (hlt : k < n) :
    ∃ b off x, A = some ⟨b, off, none⟩ ∧ rs[k]? = some x ∧ b < B ∧ wr.rangeAt b (off + k * 12) (recCells x.r x.A x.c).toList := by
  obtain ⟨b, off, rfl, hbb, hc⟩ := (hr.below hb).at_ hlt
  subst hn
  refine ⟨b, off, rs[k], rfl, List.getElem?_eq_getElem hlt, hbb, fun j v hv => ?_⟩
  have hj : j < 12 := by
    have := (List.getElem?_eq_some_iff.1 hv).1
    simpa using this
  rw [hc j hj, inCells_at rs k _ (List.getElem?_eq_getElem hlt) j hj, ← hv]
  simp
set_option maxRecDepth 100000 in
set_option maxHeartbeats 400000 in
theorem fits_any (rs : List In) (n c : Nat) (A : Option Addr) (hn : n = rs.length) (w : World) (hr : Rd w w.heap.size 12 A n (inCells rs)) :
    Calls Try.prog 8 #[.slice A n c] w (FitsAns (rs.length ≤ 2147483647 ∧ ∀ x ∈ rs, Fits x) w) := by
  subst hn
  by_cases hbig : rs.length ≤ 2147483647
  · go_enter Try.func8, Try.ntmps8
    go_wp2
    go_loopw [10] (fun i wr => ∃ k : Nat, k ≤ rs.length ∧ i = .int .i64 k ∧ (∀ x ∈ rs.take k, Fits x) ∧ Below w.heap.size w wr)
      (fun i _ => rs.length - (RowKit.intOf i).toNat)
    case atStart => exact ⟨0, Nat.zero_le _, rfl, (by simp), Below.refl _ _⟩
    case round =>
      obtain ⟨k, hk, rfl, hf, hb⟩ := hrel
      by_cases hlt : k < rs.length
      · obtain ⟨b, off, x, rfl, hx, hbb, hrg⟩ := in_range hr hb rfl hlt
        obtain ⟨cs, hcs⟩ : ∃ cs, cs = (recCells x.r x.A x.c).toList := ⟨_, rfl⟩
        rw [← hcs] at hrg
        have hsz : cs.length = 12 := by rw [hcs]; rfl
        have hi44 : (Try.prog.info? 44).map (·.size) = some cs.length := by rw [hsz]; exact info44
        have hone : cs.toArray.all (·.oneCell') = true := by rw [hcs]; exact in_one x
        have hcall : ∀ W, Calls Try.prog 20 #[.agg cs.toArray] W (FitsAns (Fits x) W) := fun W => by rw [hcs]; exact fits2_any x W
        have HC := Lib.hid hcall
        clear hcs hcall
        obtain ⟨w1, hw1⟩ : ∃ w1, w1 = (wr.alloc (.cells #[.int .u64 0, .int .u64 0, .int .u64 0, .int .u64 0, .int .u64 0, .int .u64 0, .int .u64 0, .int .u64 0, .int .u64 0, .int .u64 0, .string ⟨#[]⟩, .slice none 0 0] 44)).setRow wr.heap.size cs.toArray := ⟨_, rfl⟩
        have hbx : Blk w1 wr.heap.size 44 cs.toArray := by rw [hw1]; exact setRow_blk (Blk.new _ _ _)
        have hbw : Below wr.heap.size wr w1 := by rw [hw1]; exact ((Below.refl _ _).alloc (Nat.le_refl _) _).grown (setRow_grown _ _ _) (by simp) (fun j hj => by cases hj; exact Nat.le_refl _)
        have hrg2 : w1.rangeAt wr.heap.size 0 cs := fun j v hv => by rw [Nat.zero_add, hbx.cell]; simpa using hv
        rw [hw1] at hrg2
        go_wp2_with (first
          | (refine wpList_load_mid rfl 44 (.tmp 12) rfl b (off + k * 12) rfl cs _ hrg Try.underlying44 rfl hi44 ?_)
          | (refine wpList_store_row rfl 44 (.tmp 4) (.tmp 13) rfl wr.heap.size cs.toArray rfl rfl 44 _ (Blk.new _ _ _) (by simpa using hi44) (by simp [hsz]) hone ?_)
          | (refine wpList_load_mid rfl 44 (.tmp 4) rfl wr.heap.size 0 rfl cs _ hrg2 Try.underlying44 rfl hi44 ?_)
          | (go_at_call 20
             rw [← hw1]
             refine (HC.out _).mono ?_
             rintro e w2 ⟨bb, rfl, hbb2, hb2⟩
             have hbs := hb.trans ((hbw.trans (hb2.mono hbw.size)).mono hb.size)))
        · go_ret
          exact ⟨_, rfl, (fun h => by cases h), hbs⟩
        · refine ⟨⟨k + 1, by omega, by go_num, ?_, hbs⟩, by simp [RowKit.intOf]; omega⟩
          have hbt : bb = true := by
            have : (!bb) = false := by assumption
            simpa using this
          intro y hy
          rw [List.take_add_one, hx] at hy
          rcases List.mem_append.1 hy with hy | hy
          · exact hf y hy
          · simp at hy
            rw [hy]
            exact hbb2 hbt
      · obtain rfl : k = rs.length := by omega
        go_wp2
        go_ret
        rw [List.take_length] at hf
        exact ⟨_, rfl, (fun _ => ⟨hbig, hf⟩), hb⟩
  · have h3 : (2147483647 : Int) < rs.length := by omega
    go_enter Try.func8, Try.ntmps8
    go_wp2
    go_ret
    exact ⟨_, rfl, (fun h => by cases h), Below.refl _ _⟩
end Go.Proofs.Ytcecfjblgakfeaa
