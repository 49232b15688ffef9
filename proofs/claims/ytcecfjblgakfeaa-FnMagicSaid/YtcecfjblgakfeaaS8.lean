/- What a record's bytes hold, by places. -/
import Derived.Test.YtcecfjblgakfeaaS7
namespace Go.Proofs.Ytcecfjblgakfeaa
open Go.RowKit
theorem or16 (a d : Nat) (ha : a < 1152921504606846976) (hd : d < 16) : bits .or .u64 ((a * 16 : Nat) : Int) (d : Int) = ((a * 16 + d : Nat) : Int) := by
  rw [u64_or_nat (a * 16) d (by omega) (by omega)]
  congr 1
  rw [show a * 16 = a <<< 4 by rw [Nat.shiftLeft_eq], ← Nat.shiftLeft_add_eq_or_of_lt (by omega : d < 2 ^ 4)]
/-- The array of numbers: i are read, of the next one the part v. -/
def nst (nums : List Nat) (i v : Nat) : List Nat := (List.range 13).map fun t => if t < i then nums.getD t 0 else if t = i then v else 0
theorem nst_len (nums : List Nat) (i v : Nat) : (nst nums i v).length = 13 := by simp [nst]
theorem nst_next (nums : List Nat) (i : Nat) : nst nums i (nums.getD i 0) = nst nums (i + 1) 0 := by
  unfold nst
  apply List.map_congr_left
  intro t _
  by_cases h1 : t < i
  · rw [if_pos h1, if_pos (by omega)]
  · by_cases h2 : t = i
    · rw [if_neg h1, if_pos h2, if_pos (by omega), h2]
    · rw [if_neg h1, if_neg h2, if_neg (by omega)]
      split <;> rfl
theorem nst_at (nums : List Nat) (i v : Nat) (h : i < 13) : (nst nums i v)[i]? = some v := by
  simp [nst, h]
theorem nst_set (nums : List Nat) (i v u : Nat) : (nst nums i v).set i u = nst nums i u := by
  apply List.ext_getElem?
  intro t
  by_cases h : t < 13
  · rw [List.getElem?_set]
    by_cases h2 : i = t
    · subst h2
      simp [nst, h]
    · rw [if_neg h2]
      simp only [nst, List.getElem?_map, List.getElem?_range h, Option.map_some]
      by_cases h3 : t < i
      · rw [if_pos h3, if_pos h3]
      · rw [if_neg h3, if_neg h3, if_neg (fun e => h2 e.symm), if_neg (fun e => h2 e.symm)]
  · rw [List.getElem?_eq_none (by rw [List.length_set, nst_len]; omega), List.getElem?_eq_none (by rw [nst_len]; omega)]
theorem nst_all (r : Rec) : nst r.nums 13 0 = r.nums := by
  simp [nst, Rec.nums, List.range, List.range.loop]
theorem nst_zero (nums : List Nat) : nst nums 0 0 = List.replicate 13 0 := by
  simp [nst, List.range, List.range.loop]
/-- Numbers as cells. -/
def nv (l : List Nat) : Array Value := (l.map fun (n : Nat) => Value.int .u64 (n : Int)).toArray
theorem nv_set (l : List Nat) (i u : Nat) : (nv l).setIfInBounds i (.int .u64 (u : Int)) = nv (l.set i u) := by
  simp [nv, List.map_set]
theorem nv_at (l : List Nat) (i v : Nat) (h : l[i]? = some v) : (nv l)[i]? = some (.int .u64 (v : Int)) := by
  simp [nv, h]
theorem hexes_at (xs : List Nat) (i j n : Nat) (hi : xs[i]? = some n) (hj : j < 8) : (hexes xs)[8 * i + j]? = some (dig (n / 16 ^ (7 - j) % 16)) := by
  induction xs generalizing i with
  | nil => simp at hi
  | cons a l ih =>
    have e : hexes (a :: l) = low 8 a ++ hexes l := rfl
    rw [e]
    cases i with
    | zero =>
      simp only [List.getElem?_cons_zero, Option.some.injEq] at hi
      subst hi
      rw [Nat.mul_zero, Nat.zero_add, List.getElem?_append_left (by rw [low_len]; exact hj), low_at 8 a j hj]
    | succ i =>
      rw [List.getElem?_append_right (by rw [low_len]; omega), low_len, show 8 * (i + 1) + j - 8 = 8 * i + j by omega]
      exact ih i (by simpa using hi)
/-- A digit of a record's head. -/
theorem enc_digit (r : Rec) (rest : List UInt8) (i j n : Nat) (hi : r.nums[i]? = some n) (hj : j < 8) : (r.enc ++ rest)[6 + 8 * i + j]? = some (dig (n / 16 ^ (7 - j) % 16)) := by
  have hlt : i < 13 := by
    have := (List.getElem?_eq_some_iff.1 hi).1
    simpa [Rec.nums] using this
  have e : r.enc ++ rest = magic ++ (hexes r.nums ++ (r.name ++ [0] ++ fill (r.head ++ r.name ++ [0]).length ++ r.data ++ fill (r.front ++ r.data).length ++ rest)) := by
    simp only [Rec.enc, Rec.front, Rec.head, pad4, List.append_assoc]
  have hl : (hexes r.nums).length = 104 := by simp [hexes_len, Rec.nums]
  rw [e, List.getElem?_append_right (by simp [magic]; omega), List.getElem?_append_left (by rw [hl]; simp [magic]; omega)]
  have := hexes_at r.nums i j n hi hj
  rw [show 6 + 8 * i + j - magic.length = 8 * i + j by simp [magic]; omega]
  exact this
theorem enc_magic (r : Rec) (rest : List UInt8) : (r.enc ++ rest).take 6 = magic := by
  have e : r.enc ++ rest = magic ++ (hexes r.nums ++ (r.name ++ [0] ++ fill (r.head ++ r.name ++ [0]).length ++ r.data ++ fill (r.front ++ r.data).length ++ rest)) := by
    simp only [Rec.enc, Rec.front, Rec.head, pad4, List.append_assoc]
  rw [e, List.take_append_of_le_length (by simp [magic])]
  rfl
theorem enc_name (r : Rec) (rest : List UInt8) : ((r.enc ++ rest).drop 110).take r.name.length = r.name := by
  have e : r.enc ++ rest = r.head ++ (r.name ++ ([0] ++ fill (r.head ++ r.name ++ [0]).length ++ r.data ++ fill (r.front ++ r.data).length ++ rest)) := by
    simp only [Rec.enc, Rec.front, pad4, List.append_assoc]
  rw [e, show 110 = r.head.length from r.head_len.symm, List.drop_left, List.take_left]
theorem enc_data (r : Rec) (rest : List UInt8) : ((r.enc ++ rest).drop r.front.length).take r.data.length = r.data := by
  have e : r.enc ++ rest = r.front ++ (r.data ++ (fill (r.front ++ r.data).length ++ rest)) := by
    simp only [Rec.enc, pad4, List.append_assoc]
  rw [e, List.drop_left, List.take_left]
theorem enc_rest (r : Rec) (rest : List UInt8) : (r.enc ++ rest).drop r.enc.length = rest := List.drop_left
end Go.Proofs.Ytcecfjblgakfeaa
