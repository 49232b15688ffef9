/- Hexadecimal digits are made into bytes. -/
import Derived.Sort.AtCall
import Derived.Test.YtcecfjblgakfeaaP3
import Derived.Deep.RegionHeld3
namespace Go.Proofs.Ytcecfjblgakfeaa
open Go.RowKit
theorem part_at (l : List UInt8) (k : Nat) (h : k < l.length) : ((bv (l.take k ++ List.replicate (l.length - k) 0)).toArray)[k]? = some (.int .u8 0) := by
  rw [List.getElem?_toArray, bv_app, List.getElem?_append_right (by simp [bv]; omega)]
  simp only [bv, List.length_map, List.length_take, List.getElem?_map]
  rw [List.getElem?_replicate, if_pos (by omega)]
  rfl
theorem part_set (l : List UInt8) (k : Nat) (h : k < l.length) : ((bv (l.take k ++ List.replicate (l.length - k) 0)).toArray).setIfInBounds k (.int .u8 (l[k].toNat : Int)) = (bv (l.take (k + 1) ++ List.replicate (l.length - (k + 1)) 0)).toArray := by
  apply Array.ext'
  simp only [Array.toList_setIfInBounds]
  rw [show l.length - k = (l.length - (k + 1)) + 1 by omega, List.replicate_succ, bv_app, List.set_append_right _ _ (by simp [bv]; omega)]
  have e : k - (bv (l.take k)).length = 0 := by simp [bv]; omega
  rw [e, List.take_succ_eq_append_getElem h, bv_app, bv_app]
  simp [bv]
theorem uhex_at : ∀ (l : List UInt8) (k : Nat) (x : UInt8), l[k]? = some x → (uhex l)[2 * k]? = some (dig (x.toNat / 16)) ∧ (uhex l)[2 * k + 1]? = some (dig (x.toNat % 16))
  | [], k, x, h => by simp at h
  | a :: l, 0, x, h => by
    simp only [List.getElem?_cons_zero, Option.some.injEq] at h
    subst h
    exact ⟨rfl, rfl⟩
  | a :: l, k + 1, x, h => by
    have e : uhex (a :: l) = dig (a.toNat / 16) :: dig (a.toNat % 16) :: uhex l := rfl
    have := uhex_at l k x (by simpa using h)
    rw [e, show 2 * (k + 1) = 2 * k + 1 + 1 by omega, show 2 * k + 1 + 1 + 1 = (2 * k + 1) + 1 + 1 by omega]
    simpa only [List.getElem?_cons_succ] using this
theorem or_dig (x y : Nat) (hx : x < 16) (hy : y < 16) : bits .or .i64 ((x : Int) * 16) (y : Int) = ((x * 16 + y : Nat) : Int) := by
  have : ∀ x : Fin 16, ∀ y : Fin 16, bits .or .i64 (((x.val : Nat) : Int) * 16) ((y.val : Nat) : Int) = ((x.val * 16 + y.val : Nat) : Int) := by decide
  exact this ⟨x, hx⟩ ⟨y, hy⟩
set_option maxRecDepth 100000 in
set_option maxHeartbeats 1000000 in
/-- unhex of the digits of these bytes. -/
theorem unhex_any (l : List UInt8) (n m gd cd gs os cs : Nat) (hn : n = l.length) (hn9 : n ≤ 100000) (w : World) (hd : Blk w gd 5 (bv (List.replicate n 0)).toArray) (hs : ∀ j u, (bv (uhex l))[j]? = some u → w.cell? ⟨gs, os + j, none⟩ = some u) (hne : gs ≠ gd) (hcd : n ≤ cd) (hcs : 2 * n ≤ m) :
    Calls Try.prog 81 #[.slice (some ⟨gd, 0, none⟩) n cd, .slice (some ⟨gs, os, none⟩) m cs] w fun e w' => e = .returned .nilIface ∧ Blk w' gd 5 (bv l).toArray ∧ w.grownBy w' (some gd) := by
  subst hn
  go_enter Try.func81, Try.ntmps81
  go_wp2
  go_loopw [11] (fun i wr => ∃ k : Nat, k ≤ l.length ∧ i = .int .i64 k ∧ Blk wr gd 5 (bv (l.take k ++ List.replicate (l.length - k) 0)).toArray ∧ w.grownBy wr (some gd))
    (fun i _ => l.length - (RowKit.intOf i).toNat)
  case atStart => exact ⟨0, Nat.zero_le _, rfl, by simpa using hd, ⟨rfl, rfl, rfl, Nat.le_refl _, fun _ _ _ => rfl⟩⟩
  case round =>
    obtain ⟨k, hk, rfl, hblk, hg⟩ := hrel
    by_cases hlt : k < l.length
    · obtain ⟨p, hp⟩ : ∃ p, p = 2 * k := ⟨_, rfl⟩
      obtain ⟨q, hq⟩ : ∃ q, q = p + 1 := ⟨_, rfl⟩
      obtain ⟨x, hx⟩ : ∃ x, x = l[k].toNat / 16 := ⟨_, rfl⟩
      obtain ⟨y, hy⟩ : ∃ y, y = l[k].toNat % 16 := ⟨_, rfl⟩
      have hx16 : x < 16 := by have := l[k].toNat_lt; omega
      have hy16 : y < 16 := by omega
      have hxy : x * 16 + y = l[k].toNat := by omega
      have hw1 : IntKind.i64.wrap (2 * (k : Int)) = (p : Int) := by rw [IntWalk.i64_in _ (by omega)]; omega
      have hw2 : IntKind.i64.wrap ((p : Int) + 1) = (q : Int) := by rw [IntWalk.i64_in _ (by omega)]; omega
      obtain ⟨hat1, hat2⟩ := uhex_at l k l[k] (List.getElem?_eq_getElem hlt)
      have hold : ∀ j u, (bv (uhex l))[j]? = some u → wr.cell? ⟨gs, os + j, none⟩ = some u := fun j u hu => by
        have h0 := hs j u hu
        have hlt := World.block_lt_of_cell? w _ h0
        have hblkeq := hg.block gs hlt (fun e => hne (by injection e))
        rw [← h0]
        unfold World.cell?
        simp only [hblkeq]
      have hcx : wr.cell? ⟨gs, os + p, none⟩ = some (.int .u8 ((dig x).toNat : Int)) := hold _ _ (by rw [hp, hx, bv, List.getElem?_map, hat1]; rfl)
      have hcy : wr.cell? ⟨gs, os + q, none⟩ = some (.int .u8 ((dig y).toNat : Int)) := hold _ _ (by rw [hq, hp, hy, bv, List.getElem?_map, hat2]; rfl)
      have hp0 : (0 : Int) ≤ p := by omega
      have hq0 : (0 : Int) ≤ q := by omega
      have hp1 : (p : Int) < (m : Int) := by omega
      have hq1 : (q : Int) < (m : Int) := by omega
      have hfz := hblk.frozen k
      have HX := Lib.hid hx
      have HY := Lib.hid hy
      have HXY := Lib.hid hxy
      clear hp hq hx hy hxy hold hat1 hat2
      go_wp2_with fail
      go_region_held3 (fun w' => w'.cell? ⟨gs, os + p, none⟩ = some (.int .u8 ((dig x).toNat : Int)) ∧ w'.cell? ⟨gs, os + q, none⟩ = some (.int .u8 ((dig y).toNat : Int))) (go_keep) (first
        | (go_at_call_has 86 (dig x)
           refine (unhex1_any x hx16 _).mono ?_
           rintro e w1 ⟨rfl, rfl⟩)
        | (go_at_call_has 86 (dig y)
           refine (unhex1_any y hy16 _).mono ?_
           rintro e w2 ⟨rfl, rfl⟩))
      have hck : wr.drew.cell? ⟨gd, k, none⟩ = some (.int .u8 0) := by
        exact (hblk.cell k).trans (part_at l k hlt)
      have hfz' : wr.drew.frozen? ⟨gd, k, none⟩ = false := hfz
      have hor : bits .or .i64 ((x : Int) * 16) (y : Int) = (l[k].toNat : Int) := by rw [or_dig x y hx16 hy16, HXY.out]
      have hk1 : (k : Int) < (l.length : Int) := by omega
      go_wp2
      have e8 : ((l[k].toNat : Int) % 256) = (l[k].toNat : Int) := by have := l[k].toNat_lt; omega
      rw [e8]
      have hset := (hblk.set_ k (.int .u8 (l[k].toNat : Int)))
      rw [part_set l k hlt] at hset
      refine ⟨⟨k + 1, by omega, by go_num, hset, ?_⟩, by simp [RowKit.intOf]; omega⟩
      exact ⟨hg.os, hg.tape, hg.output, by simpa using hg.size, fun j hj hn => (Below.heap_setCell wr ⟨gd, k, none⟩ _ j (fun e => hn (by rw [e]))).trans (hg.block j hj hn)⟩
    · obtain rfl : k = l.length := by omega
      go_wp2
      go_ret
      refine ⟨rfl, ?_, hg⟩
      rw [List.take_length, Nat.sub_self] at hblk
      simpa using hblk
end Go.Proofs.Ytcecfjblgakfeaa
