/- Thirteen numbers are read into a header. -/
import Derived.Test.YtcecfjblgakfeaaP4
namespace Go.Proofs.Ytcecfjblgakfeaa
open Go.RowKit
/-- Of the blocks that were there, only those of P have turned. -/
def Onl (P : Nat → Prop) (w w' : World) : Prop :=
  w'.os = w.os ∧ w'.tape = w.tape ∧ w'.output = w.output ∧ w.heap.size ≤ w'.heap.size ∧ ∀ k, k < w.heap.size → ¬ P k → w'.heap[k]? = w.heap[k]?
section
variable {P Q : Nat → Prop} {w w' w'' : World}
theorem Onl.refl (P : Nat → Prop) (w : World) : Onl P w w := ⟨rfl, rfl, rfl, Nat.le_refl _, fun _ _ _ => rfl⟩
theorem Onl.trans (h : Onl P w w') (h' : Onl Q w' w'') (hP : ∀ k, k < w.heap.size → P k → Q k) : Onl Q w w'' :=
  ⟨h'.1.trans h.1, h'.2.1.trans h.2.1, h'.2.2.1.trans h.2.2.1, Nat.le_trans h.2.2.2.1 h'.2.2.2.1, fun k hk hn =>
    (h'.2.2.2.2 k (Nat.lt_of_lt_of_le hk h.2.2.2.1) hn).trans (h.2.2.2.2 k hk fun hp => hn (hP k hk hp))⟩
theorem Onl.mono (h : Onl P w w') (hP : ∀ k, k < w.heap.size → P k → Q k) : Onl Q w w' :=
  ⟨h.1, h.2.1, h.2.2.1, h.2.2.2.1, fun k hk hn => h.2.2.2.2 k hk fun hp => hn (hP k hk hp)⟩
theorem Onl.size (h : Onl P w w') : w.heap.size ≤ w'.heap.size := h.2.2.2.1
theorem Onl.of_below (h : Below w.heap.size w w') : Onl P w w' := ⟨h.os, h.tape, h.output, h.size, fun k hk _ => h.block k hk⟩
theorem Onl.of_grown {g : Nat} (h : w.grownBy w' (some g)) : Onl (fun k => k = g) w w' :=
  ⟨h.os, h.tape, h.output, h.size, fun k hk hn => h.block k hk fun e => hn (by injection e)⟩
theorem Onl.below {B : Nat} (h : Onl P w w') (hB : B ≤ w.heap.size) (hP : ∀ k, k < w.heap.size → P k → B ≤ k) : Below B w w' :=
  ⟨h.1, h.2.1, h.2.2.1, h.2.2.2.1, fun k hk => h.2.2.2.2 k (by omega) fun hp => by have := hP k (by omega) hp; omega⟩
theorem Onl.drew (h : Onl P w w') : Onl P w w'.drew := ⟨h.1, h.2.1, h.2.2.1, h.2.2.2.1, h.2.2.2.2⟩
theorem Onl.drewN (h : Onl P w w') (n : Nat) : Onl P w (w'.drewN n) := ⟨h.1, h.2.1, h.2.2.1, h.2.2.2.1, h.2.2.2.2⟩
theorem Onl.alloc (h : Onl P w w') (o : Obj) : Onl P w (w'.alloc o) :=
  ⟨h.1, h.2.1, h.2.2.1, Nat.le_trans h.size (by simp), fun k hk hn => (Below.heap_alloc w' o k (Nat.lt_of_lt_of_le hk h.size)).trans (h.2.2.2.2 k hk hn)⟩
theorem Onl.set_ (h : Onl P w w') {p : Addr} (hp : p.block < w.heap.size → P p.block) (u : Value) : Onl P w (w'.setCell p u) :=
  ⟨h.1, h.2.1, h.2.2.1, by simpa using h.size, fun k hk hn => (Below.heap_setCell w' p u k (fun e => hn (e ▸ hp (e ▸ hk)))).trans (h.2.2.2.2 k hk hn)⟩
theorem Onl.blk {g : Nat} {t : TypeId} {cs : Array Value} (h : Onl P w w') (hg : Blk w g t cs) (hn : ¬ P g) : Blk w' g t cs := (h.2.2.2.2 g hg.lt hn).trans hg
theorem Onl.rd {B size n : Nat} {A : Option Addr} {xs : List Value} (h : Onl P w w') (hr : Rd w B size A n xs) (hB : B ≤ w.heap.size) (hP : ∀ k, k < w.heap.size → P k → B ≤ k) : Rd w' B size A n xs := hr.below (h.below hB hP)
end
/-- Numbers of 32 bits as cells. -/
def uv (l : List Nat) : List Value := l.map fun (n : Nat) => Value.int .u32 (n : Int)
theorem uv_part_at (l : List Nat) (k : Nat) (h : k < l.length) : ((uv (l.take k ++ List.replicate (l.length - k) 0)).toArray)[k]? = some (.int .u32 0) := by
  rw [List.getElem?_toArray, uv, List.map_append, List.getElem?_append_right (by simp; omega)]
  simp only [List.length_map, List.length_take, List.getElem?_map]
  rw [List.getElem?_replicate, if_pos (by omega)]
  rfl
theorem uv_part_set (l : List Nat) (k n : Nat) (h : l[k]? = some n) : ((uv (l.take k ++ List.replicate (l.length - k) 0)).toArray).setIfInBounds k (.int .u32 (n : Int)) = (uv (l.take (k + 1) ++ List.replicate (l.length - (k + 1)) 0)).toArray := by
  have hk : k < l.length := (List.getElem?_eq_some_iff.1 h).1
  apply Array.ext'
  simp only [Array.toList_setIfInBounds]
  rw [show l.length - k = (l.length - (k + 1)) + 1 by omega, List.replicate_succ, uv, List.map_append, List.set_append_right _ _ (by simp; omega)]
  have e : k - (List.map (fun (n : Nat) => Value.int .u32 (n : Int)) (l.take k)).length = 0 := by simp; omega
  rw [e, List.take_add_one, h]
  simp [uv]
theorem bes_at (l : List Nat) (k n i : Nat) (h : l[k]? = some n) (hi : i < 4) : (bes l)[4 * k + i]? = (be n)[i]? := by
  induction l generalizing k with
  | nil => simp at h
  | cons a l ih =>
    have e : bes (a :: l) = be a ++ bes l := rfl
    have hl : (be a).length = 4 := rfl
    cases k with
    | zero =>
      simp only [List.getElem?_cons_zero, Option.some.injEq] at h
      rw [e, h, List.getElem?_append_left (by rw [← h, hl]; omega), Nat.mul_zero, Nat.zero_add]
    | succ k =>
      rw [e, List.getElem?_append_right (by rw [hl]; omega), hl, show 4 * (k + 1) + i - 4 = 4 * k + i by omega]
      exact ih k (by simpa using h)
set_option maxRecDepth 100000 in
set_option maxHeartbeats 1000000 in
/-- The bytes of thirteen numbers, read into a header. -/
theorem hread_any (nums : List Nat) (hl : nums.length = 13) (hx : ∀ n ∈ nums, n < 4294967296) (gh gb : Nat) (w : World) (hh : Blk w gh 156 (uv (List.replicate 13 0)).toArray) (hb : Blk w gb 5 (bv (bes nums)).toArray) :
    Calls Try.prog 82 #[.pointer (some ⟨gh, 0, none⟩), .slice (some ⟨gb, 0, none⟩) 52 52] w fun e w' => e = .returned (.tuple #[]) ∧ Blk w' gh 156 (uv nums).toArray ∧ Onl (fun k => k = gh) w w' := by
  have hne := hh.ne_ hb (by decide)
  have HL := Lib.hid hl
  have HX := Lib.hid hx
  have HNE := Lib.hid hne
  clear hl hx hne
  go_enter Try.func82, Try.ntmps82
  go_wp2_with fail
  go_region_held3 (fun _ => True) (trivial) (fail)
  obtain ⟨W1, hW1⟩ : ∃ W1, W1 = (w.alloc (.cells #[.pointer (some ⟨gh, 0, none⟩), .pointer (some ⟨gh, 1, none⟩), .pointer (some ⟨gh, 2, none⟩), .pointer (some ⟨gh, 3, none⟩), .pointer (some ⟨gh, 4, none⟩), .pointer (some ⟨gh, 5, none⟩), .pointer (some ⟨gh, 6, none⟩), .pointer (some ⟨gh, 7, none⟩), .pointer (some ⟨gh, 8, none⟩), .pointer (some ⟨gh, 9, none⟩), .pointer (some ⟨gh, 10, none⟩), .pointer (some ⟨gh, 11, none⟩), .pointer (some ⟨gh, 12, none⟩)] 164)).drew := ⟨_, rfl⟩
  have hA : Blk W1 w.heap.size 164 ((List.range 13).map fun j => Value.pointer (some ⟨gh, j, none⟩)).toArray := by rw [hW1]; exact (Blk.new _ _ _).drew
  have ho1 : Onl (fun k => k = gh) w W1 := by rw [hW1]; exact ((Onl.refl _ _).alloc _).drew
  have hh1 : Blk W1 gh 156 (uv (List.replicate 13 0)).toArray := by rw [hW1]; exact (hh.alloc _).drew
  have hgl := hh.lt
  rw [← hW1]
  clear hW1
  go_wp2
  go_loopw [47] (fun i wr => ∃ k : Nat, k ≤ 13 ∧ i = .int .i64 k ∧ Blk wr gh 156 (uv (nums.take k ++ List.replicate (nums.length - k) 0)).toArray ∧ Onl (fun k => k = gh) w wr ∧ Blk wr w.heap.size 164 ((List.range 13).map fun j => Value.pointer (some ⟨gh, j, none⟩)).toArray)
    (fun i _ => 13 - (RowKit.intOf i).toNat)
  case atStart => exact ⟨0, by omega, rfl, by rw [HL.out]; exact hh1, ho1, hA⟩
  case round =>
    obtain ⟨k, hk, rfl, hblk, ho, hA2⟩ := hrel
    by_cases hlt : k < 13
    · have hkl : k < nums.length := by rw [HL.out]; exact hlt
      obtain ⟨n, hn⟩ : ∃ n, nums[k]? = some n := ⟨nums[k], List.getElem?_eq_getElem hkl⟩
      have hn32 := HX.out n (List.mem_of_getElem? hn)
      have hca : wr.cell? ⟨w.heap.size, k, none⟩ = some (.pointer (some ⟨gh, k, none⟩)) := by
        rw [hA2.cell]
        simp [hlt]
      have hb2 := ho.blk hb (fun e => HNE.out e.symm)
      obtain ⟨p, hp⟩ : ∃ p, p = 4 * k := ⟨_, rfl⟩
      have hcb : ∀ i x, i < 4 → (be n)[i]? = some x → wr.cell? ⟨gb, p + i, none⟩ = some (.int .u8 (x.toNat : Int)) := fun i x hi hx => by
        rw [hb2.cell, hp, List.getElem?_toArray, bv, List.getElem?_map, bes_at nums k n i hn hi, hx]
        rfl
      have hofn (m : Nat) : (UInt8.ofNat m).toNat = m % 256 := by simp
      have c0 := hcb 0 _ (by omega) rfl
      have c1 := hcb 1 _ (by omega) rfl
      have c2 := hcb 2 _ (by omega) rfl
      have c3 := hcb 3 _ (by omega) rfl
      rw [hofn] at c0 c1 c2 c3
      rw [Nat.add_zero] at c0
      have hback : n / 16777216 % 256 * 16777216 + n / 65536 % 256 * 65536 + n / 256 % 256 * 256 + n % 256 = n := by omega
      have hcall := fun cap => beuint_any gb p (52 - p) cap (n / 16777216 % 256) (n / 65536 % 256) (n / 256 % 256) (n % 256) (by omega) (by omega) (by omega) (by omega) (by omega) wr c0 c1 c2 c3
      rw [hback] at hcall
      have HC := Lib.hid hcall
      have HN := Lib.hid hn
      have hp52 : p ≤ 48 := by omega
      have hpi : (4 : Int) * (k : Int) = (p : Int) := by omega
      have hne4 : ¬ 52 = p := by omega
      clear hcall hback c0 c1 c2 c3 hcb hofn hn hp hh hh1 ho1 hA hb
      have hfz := hblk.frozen k
      have hck : wr.cell? ⟨gh, k, none⟩ = some (.int .u32 0) := (hblk.cell k).trans (uv_part_at nums k hkl)
      go_wp2_with fail
      refine (HC.out _).mono ?_
      rintro e w2 ⟨rfl, q, rfl⟩
      have hck' : (wr.drewN q).cell? ⟨gh, k, none⟩ = some (.int .u32 0) := hck
      have hfz' : (wr.drewN q).frozen? ⟨gh, k, none⟩ = false := hfz
      go_wp2
      have hset := (hblk.drewN q).set_ k (.int .u32 (n : Int))
      rw [uv_part_set nums k n HN.out] at hset
      exact ⟨⟨k + 1, by omega, by go_num, hset, (ho.drewN q).set_ (fun _ => rfl) _, (hA2.drewN q).far (by simp; omega) _⟩, by simp [RowKit.intOf]; omega⟩
    · obtain rfl : k = 13 := by omega
      go_wp2
      go_end0
      refine ⟨rfl, ?_, ho⟩
      have e : nums.take 13 ++ List.replicate (nums.length - 13) 0 = nums := by
        rw [HL.out, Nat.sub_self, List.replicate_zero, List.append_nil, List.take_of_length_le (by rw [HL.out]; omega)]
      rw [e] at hblk
      exact hblk
end Go.Proofs.Ytcecfjblgakfeaa
