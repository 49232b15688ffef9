/- The reference writes an archive. -/
import Derived.Test.YtcecfjblgakfeaaS9
import Derived.Test.YtcecfjblgakfeaaS10
namespace Go.Proofs.Ytcecfjblgakfeaa
open Go.RowKit
/-- The reference's record behind all others: one link. -/
def tailRec : Rec := ⟨0, 0, 0, 0, 1, 0, 0, 0, 0, 0, trailer, []⟩
theorem tail_small : tailRec.Small := by constructor <;> decide
theorem written_tail (w : World) : Calls Try.prog 18 #[.agg #[.int .u64 0, .int .u64 0, .int .u64 0, .int .u64 0, .int .u64 1, .int .u64 0, .int .u64 0, .int .u64 0, .int .u64 0, .int .u64 0, .string ⟨#[84, 82, 65, 73, 76, 69, 82, 33, 33, 33]⟩, .slice none 0 0]] w (RetOwn w.heap.size [5] tailRec.enc w) :=
  written_any tailRec tail_small.fit none 0 0 w (Nat.zero_le _) Rd.none_
/-- What the reference writes. -/
def ArcAns (rs : List Rec) (w : World) (e : Ending) (w' : World) : Prop := RetOwn w.heap.size [5] (encs rs ++ tailRec.enc) w e w'
set_option maxRecDepth 100000 in
set_option maxHeartbeats 1000000 in
theorem archive_any (rs : List In) (n c : Nat) (A : Option Addr) (hn20 : n ≤ 20) (hsm : ∀ x ∈ rs, x.r.Small) (B : Nat) (w : World) (hB : B ≤ w.heap.size) (hl : Lies w B A n rs) :
    Calls Try.prog 17 #[.slice A n c] w (ArcAns (rs.map (·.r)) w) := by
  obtain ⟨rfl, hr, hd⟩ := hl
  go_enter Try.func17, Try.ntmps17
  go_wp2
  go_loopw [3, 8] (fun v i wr => ∃ (k : Nat) (A' : Option Addr) (c' : Nat) (L : List UInt8), k ≤ rs.length ∧ i = .int .i64 k ∧ v = .slice A' L.length c' ∧ Hid (L = encs ((rs.take k).map (·.r))) ∧ L.length ≤ 1000000 ∧ Own wr w.heap.size 5 1 (.slice A' L.length c') L.length (bv L) ∧ Fr w.heap.size [5] w wr)
    (fun _ i _ => rs.length - (RowKit.intOf i).toNat)
  case atStart => exact ⟨0, none, 0, [], Nat.zero_le _, rfl, rfl, Lib.hid rfl, by simp, Own.nil_ _ _ _ _, Fr.refl _ _ _⟩
  case round =>
    obtain ⟨k, A', c', L, hk, rfl, rfl, hL, hLl, hown, hfr⟩ := hrel
    by_cases hlt : k < rs.length
    · have hb := hfr.below (Nat.le_refl _)
      obtain ⟨b, off, x, rfl, hx, hbb, hrg⟩ := in_range hr (hb.mono hB) rfl hlt
      have hxm : x ∈ rs := List.mem_of_getElem? hx
      obtain ⟨cs, hcs⟩ : ∃ cs, cs = (recCells x.r x.A x.c).toList := ⟨_, rfl⟩
      rw [← hcs] at hrg
      have hsz : cs.length = 12 := by rw [hcs]; rfl
      have hi39 : (Try.prog.info? 39).map (·.size) = some cs.length := by rw [hsz]; exact info39
      have hone : cs.toArray.all (·.oneCell') = true := by rw [hcs]; exact in_one x
      have hcall : ∀ W, Below B w W → Calls Try.prog 18 #[.agg cs.toArray] W (RetOwn W.heap.size [5] x.r.enc W) := fun W hW => by
        rw [hcs]
        exact written_any x.r (hsm x hxm).fit x.A x.c B W (Nat.le_trans hB hW.size) ((hd x hxm).below hW)
      have HC := Lib.hid hcall
      obtain ⟨w1, hw1⟩ : ∃ w1, w1 = (wr.alloc (.cells #[.int .u64 0, .int .u64 0, .int .u64 0, .int .u64 0, .int .u64 0, .int .u64 0, .int .u64 0, .int .u64 0, .int .u64 0, .int .u64 0, .string ⟨#[]⟩, .slice none 0 0] 39)).setRow wr.heap.size cs.toArray := ⟨_, rfl⟩
      have hbx : Blk w1 wr.heap.size 39 cs.toArray := by rw [hw1]; exact setRow_blk (Blk.new _ _ _)
      have hbw : Below wr.heap.size wr w1 := by rw [hw1]; exact ((Below.refl _ _).alloc (Nat.le_refl _) _).grown (setRow_grown _ _ _) (by simp) (fun j hj => by cases hj; exact Nat.le_refl _)
      have hrg2 : w1.rangeAt wr.heap.size 0 cs := fun j v hv => by rw [Nat.zero_add, hbx.cell]; simpa using hv
      have hb1 : Below w.heap.size w w1 := hb.trans (hbw.mono hb.size)
      have hfr1 : Fr w.heap.size [5] w w1 := hfr.trans (Fr.of_below hbw)
      have hown1 := hown.old hbw
      rw [hw1] at hrg2
      have HW := Lib.hid hw1
      clear hcs hcall hw1
      go_wp2_with (first
        | (refine wpList_load_mid rfl 39 (.tmp 10) rfl b (off + k * 12) rfl cs _ hrg Try.underlying39 rfl hi39 ?_)
        | (refine wpList_store_row rfl 39 (.tmp 5) (.tmp 11) rfl wr.heap.size cs.toArray rfl rfl 39 _ (Blk.new _ _ _) (by simpa using hi39) (by simp [hsz]) hone ?_)
        | (refine wpList_load_mid rfl 39 (.tmp 5) rfl wr.heap.size 0 rfl cs _ hrg2 Try.underlying39 rfl hi39 ?_))
      rw [← HW.out]
      refine (HC.out _ (hb1.mono hB)).mono ?_
      rintro e w2 ⟨A2, c2, rfl, ho2, hf2⟩
      have hb2 : Below w1.heap.size w1 w2 := hf2.below (Nat.le_refl _)
      have hown2 := hown1.old hb2
      have hfr2 : Fr w.heap.size [5] w w2 := hfr1.trans (Fr.of_below hb2)
      obtain ⟨L', hL'⟩ : ∃ L', L' = L ++ x.r.enc := ⟨_, rfl⟩
      have hel := x.r.enc_len
      have hfl := x.r.front_len
      have hn1 := (hsm x hxm).name
      have hd1 := (hsm x hxm).data
      have hLk : L.length ≤ 530 * 20 := by
        have h1 := encs_len ((rs.take k).map (·.r)) (fun r hr' => by obtain ⟨y, hy, rfl⟩ := List.mem_map.1 hr'; exact hsm y (List.mem_of_mem_take hy))
        rw [hL.out]
        simp only [List.length_map, List.length_take] at h1
        omega
      have hEl : x.r.enc.length ≤ 600 := by omega
      have hl2 : L'.length ≤ 1000000 := by rw [hL', List.length_append]; omega
      have HL := Lib.hid hL'
      have HSZ := Lib.hid hfr2.size
      have hrd2 := ho2.rd
      clear hL' hel hfl
      go_wp2_with (
         at_builtin
         refine wpList_appb _ rfl (.tmp 12) (.tmp 14) rfl w.heap.size (.slice A' L.length c') _ L rfl hown2 w2.heap.size A2 _ c2 x.r.enc rfl hrd2 L' HL (by omega) HSZ.out ?_
         intro A3 c3 w3 hown3 hg3 hat3)
      refine ⟨⟨k + 1, A3, c3, L', by omega, by go_num, rfl, Lib.hid ?_, hl2, hown3, hfr2.grown hg3 (own_row hown2 (by simp))⟩, by simp [RowKit.intOf]; omega⟩
      rw [HL.out, hL.out, List.take_add_one, hx]
      simp [encs]
    · obtain rfl : k = rs.length := by omega
      rw [List.take_length] at hL
      go_wp2_with fail
      refine (written_tail _).mono ?_
      rintro e w2 ⟨A2, c2, rfl, ho2, hf2⟩
      have hb2 : Below wr.heap.size wr w2 := hf2.below (Nat.le_refl _)
      have hown2 := hown.old hb2
      have hfr2 : Fr w.heap.size [5] w w2 := hfr.trans (Fr.of_below hb2)
      obtain ⟨L', hL'⟩ : ∃ L', L' = L ++ tailRec.enc := ⟨_, rfl⟩
      have hEl : tailRec.enc.length ≤ 200 := by decide
      have HL := Lib.hid hL'
      have HSZ := Lib.hid hfr2.size
      have hrd2 := ho2.rd
      clear hL'
      go_wp2_with (
         at_builtin
         refine wpList_appb _ rfl (.tmp 17) (.tmp 19) rfl w.heap.size (.slice A' L.length c') _ L rfl hown2 w2.heap.size A2 _ c2 tailRec.enc rfl hrd2 L' HL (by omega) HSZ.out ?_
         intro A3 c3 w3 hown3 hg3 hat3)
      go_ret
      have e : encs (rs.map (·.r)) ++ tailRec.enc = L' := by rw [HL.out, hL.out]
      unfold ArcAns
      rw [e]
      exact ⟨A3, c3, rfl, hown3, hfr2.grown hg3 (own_row hown2 (by simp))⟩
end Go.Proofs.Ytcecfjblgakfeaa
