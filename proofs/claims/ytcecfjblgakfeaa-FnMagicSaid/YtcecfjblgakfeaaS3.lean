/- The reference's test of a name. -/
import Derived.Test.YtcecfjblgakfeaaW
import Derived.Test.YtcecfjblgakfeaaN2
import Derived.Laws.Strings
import Derived.Lib.Hide
namespace Go.Proofs.Ytcecfjblgakfeaa
open Go.RowKit
/-- What the test of a name answers. -/
def NameAns (l : List UInt8) (w : World) (e : Ending) (w' : World) : Prop := ∃ b, e = .returned (.bool b) ∧ (b = true → GoodName l) ∧ w' = w
theorem ext_list (l : List UInt8) (a k : Nat) (h : a ≤ k) : (ByteArray.extract ⟨l.toArray⟩ a k).toList = (l.take k).drop a := by
  rw [ByteArray.toList_eq]
  simp [List.take_drop]
  rw [show a + (k - a) = k by omega]
set_option maxRecDepth 100000 in
set_option maxHeartbeats 1000000 in
theorem name_any (l : List UInt8) (hl : l.length ≤ 4294967296) (w : World) :
    Calls Try.prog 15 #[.string ⟨l.toArray⟩] w (NameAns l w) := by
  go_enter Try.func15, Try.ntmps15
  go_wp2
  go_loopw [3, 4] (fun a i wr => ∃ k at_ : Nat, i = .int .i64 k ∧ a = .int .i64 at_ ∧ k ≤ l.length + 1 ∧ NState l k at_ ∧ wr = w)
    (fun _ i _ => l.length + 1 - (RowKit.intOf i).toNat)
  case atStart => exact ⟨0, 0, rfl, rfl, by omega, NState.start l, rfl⟩
  case round =>
    obtain ⟨k, at_, rfl, rfl, hk, hst, rfl⟩ := hrel
    have hst0 := hst
    have ha : at_ ≤ k := hst.1
    obtain ⟨part, hpart⟩ : ∃ part, part = (l.take k).drop at_ := ⟨_, rfl⟩
    have hex : (ByteArray.extract ⟨l.toArray⟩ at_ k).toList = part := by rw [ext_list l at_ k ha, hpart]
    have HS := Lib.hid hst
    have HP := Lib.hid hpart
    clear hst hst0 hpart
    rcases Nat.lt_or_ge k l.length with hlt | hge
    · obtain ⟨c, hc⟩ : ∃ c, c = l[k] := ⟨_, rfl⟩
      have hget : ∀ h, (⟨l.toArray⟩ : ByteArray)[k]'h = c := fun h => by rw [hc]; rfl
      have HC := Lib.hid hc
      clear hc
      by_cases h47 : c = 47
      · have h471 : ((c.toNat : Int) != 47) = false := by rw [h47]; rfl
        have HN := Lib.hid h47
        clear h47
        go_wp2
        all_goals first
          | (go_ret
             exact ⟨false, rfl, (fun h => by cases h), rfl⟩)
          | (have hp : Part part := by
               refine ⟨by assumption, by assumption, ?_⟩
               rintro rfl
               simp at *
             refine ⟨⟨k + 1, k + 1, by go_num, by go_num, by omega, HS.out.stop (by omega) (fun _ => ?_) (HP.out ▸ hp), trivial⟩, by simp [RowKit.intOf] <;> omega⟩
             rw [List.getElem?_eq_getElem hlt, ← HC.out, HN.out])
      · have h471 : ((c.toNat : Int) != 47) = true := by
          simp
          intro h
          apply h47
          apply UInt8.toNat.inj
          rw [show (47 : UInt8).toNat = 47 from rfl]
          omega
        have HN := Lib.hid h47
        clear h47
        go_wp2
        all_goals first
          | (go_ret
             exact ⟨false, rfl, (fun h => by cases h), rfl⟩)
          | (have ho : Okc c := by
               unfold Okc
               simp at *
               omega
             refine ⟨⟨k + 1, at_, by go_num, rfl, by omega, HS.out.char hlt (HC.out ▸ HN.out) (HC.out ▸ ho), trivial⟩, by simp [RowKit.intOf]; omega⟩)
    · rcases Nat.lt_or_ge k (l.length + 1) with h1 | h1
      · obtain rfl : k = l.length := by omega
        go_wp2
        all_goals first
          | (go_ret
             exact ⟨false, rfl, (fun h => by cases h), rfl⟩)
          | (have hp : Part part := by
               refine ⟨by assumption, by assumption, ?_⟩
               rintro rfl
               simp at *
             refine ⟨⟨l.length + 1, l.length + 1, by go_num, by go_num, by omega, HS.out.stop (by omega) (fun h => absurd h (by omega)) (HP.out ▸ hp), trivial⟩, by simp [RowKit.intOf] <;> omega⟩)
      · obtain rfl : k = l.length + 1 := by omega
        go_wp2
        go_ret
        exact ⟨_, rfl, (fun h => HS.out.good (by simp at h; omega)), rfl⟩
end Go.Proofs.Ytcecfjblgakfeaa
