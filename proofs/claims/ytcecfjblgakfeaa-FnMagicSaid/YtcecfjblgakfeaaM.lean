/- Plain lists: hexadecimal digits, padding to four bytes, the bytes of a record. No program in sight. -/
import Derived.Laws.BitsAllLaws
namespace Go.Proofs.Ytcecfjblgakfeaa

/-- One hexadecimal digit, in capitals. -/
def dig (d : Nat) : UInt8 := if d < 10 then UInt8.ofNat (48 + d) else UInt8.ofNat (55 + d)
/-- The k lowest hexadecimal digits of n, the highest first. -/
def low : Nat → Nat → List UInt8
  | 0, _ => []
  | k + 1, n => dig (n / 16 ^ k % 16) :: low k n
theorem low_len (k n : Nat) : (low k n).length = k := by
  induction k with
  | zero => rfl
  | succ k ih => simp [low, ih]

/-- A record of an archive. -/
structure Rec where
  ino : Nat
  mode : Nat
  uid : Nat
  gid : Nat
  nlink : Nat
  mtime : Nat
  major : Nat
  minor : Nat
  rmajor : Nat
  rminor : Nat
  name : List UInt8
  data : List UInt8

/-- The thirteen numbers of a record's head. -/
def Rec.nums (r : Rec) : List Nat := [r.ino, r.mode, r.uid, r.gid, r.nlink, r.mtime, r.data.length, r.major, r.minor, r.rmajor, r.rminor, r.name.length + 1, 0]
def magic : List UInt8 := [48, 55, 48, 55, 48, 49]
/-- Noughts up to a multiple of four. -/
def fill (n : Nat) : List UInt8 := List.replicate ((4 - n % 4) % 4) 0
def pad4 (l : List UInt8) : List UInt8 := l ++ fill l.length
theorem fill_len (n : Nat) : (fill n).length = (4 - n % 4) % 4 := by simp [fill]
theorem pad4_len (l : List UInt8) : (pad4 l).length = l.length + (4 - l.length % 4) % 4 := by simp [pad4, fill_len]
theorem pad4_mod (l : List UInt8) : (pad4 l).length % 4 = 0 := by rw [pad4_len]; omega
theorem pad4_done (l : List UInt8) (h : l.length % 4 = 0) : pad4 l = l := by simp [pad4, fill, h]
theorem pad4_step (l : List UInt8) (h : l.length % 4 ≠ 0) : pad4 l = pad4 (l ++ [0]) := by
  unfold pad4 fill
  rw [List.append_assoc]
  congr 1
  rw [List.length_append, List.length_singleton, show [(0 : UInt8)] = List.replicate 1 0 from rfl, List.replicate_append_replicate]
  congr 1
  omega
/-- The digits of a list of numbers. -/
def hexes (l : List Nat) : List UInt8 := l.flatMap (low 8)
theorem hexes_len (l : List Nat) : (hexes l).length = 8 * l.length := by
  induction l with
  | nil => rfl
  | cons a l ih => simp only [hexes, List.flatMap_cons, List.length_append, low_len] at ih ⊢; rw [ih, List.length_cons]; omega
theorem hexes_snoc (l : List Nat) (n : Nat) : hexes (l ++ [n]) = hexes l ++ low 8 n := by simp [hexes]
/-- The head of a record with its name, and the whole record, as bytes. -/
def Rec.head (r : Rec) : List UInt8 := magic ++ hexes r.nums
def Rec.front (r : Rec) : List UInt8 := pad4 (r.head ++ r.name ++ [0])
def Rec.enc (r : Rec) : List UInt8 := pad4 (r.front ++ r.data)
theorem Rec.head_len (r : Rec) : r.head.length = 110 := by simp [Rec.head, hexes_len, Rec.nums, magic]
theorem Rec.front_len (r : Rec) : r.front.length = (111 + r.name.length + 3) / 4 * 4 := by
  rw [Rec.front, pad4_len]; simp only [List.length_append, r.head_len, List.length_singleton]; omega
theorem Rec.enc_len (r : Rec) : r.enc.length = (r.front.length + r.data.length + 3) / 4 * 4 := by
  rw [Rec.enc, pad4_len]; simp only [List.length_append]; omega
theorem Rec.enc_mod (r : Rec) : r.enc.length % 4 = 0 := pad4_mod _

/-! ### digits back -/
/-- The number that a digit stands for. -/
def undig (c : UInt8) : Option Nat :=
  if 48 ≤ c.toNat ∧ c.toNat ≤ 57 then some (c.toNat - 48)
  else if 97 ≤ c.toNat ∧ c.toNat ≤ 102 then some (c.toNat - 97 + 10)
  else if 65 ≤ c.toNat ∧ c.toNat ≤ 70 then some (c.toNat - 65 + 10)
  else none
theorem dig_nat (d : Nat) (h : d < 16) : (dig d).toNat = if d < 10 then 48 + d else 55 + d := by
  unfold dig
  split <;> simp <;> omega
theorem undig_dig (d : Nat) (h : d < 16) : undig (dig d) = some d := by
  unfold undig
  rw [dig_nat d h]
  by_cases h10 : d < 10
  · simp only [h10, if_true]; rw [if_pos (by omega)]; congr 1; omega
  · simp only [h10, if_false]; rw [if_neg (by omega), if_neg (by omega), if_pos (by omega)]; congr 1; omega
theorem low_at (k n j : Nat) (h : j < k) : (low k n)[j]? = some (dig (n / 16 ^ (k - 1 - j) % 16)) := by
  induction k generalizing j with
  | zero => omega
  | succ k ih =>
    cases j with
    | zero => simp [low]
    | succ j => simp only [low, List.getElem?_cons_succ]; rw [ih j (by omega), show k - 1 - j = k + 1 - 1 - (j + 1) by omega]
/-- The number read off the first j of the k digits. -/
theorem high_step (n k j : Nat) (h : j < k) : n / 16 ^ (k - j) % 16 ^ j * 16 + n / 16 ^ (k - 1 - j) % 16 = n / 16 ^ (k - (j + 1)) % 16 ^ (j + 1) := by
  have e1 : k - 1 - j = k - (j + 1) := by omega
  have e2 : k - j = k - (j + 1) + 1 := by omega
  rw [e1, e2]
  generalize k - (j + 1) = t
  have e3 : n / 16 ^ (t + 1) = n / 16 ^ t / 16 := by rw [Nat.pow_succ, Nat.div_div_eq_div_mul]
  rw [e3]
  generalize n / 16 ^ t = m
  rw [Nat.pow_succ, Nat.mul_comm (16 ^ j) 16, Nat.mod_mul]
  omega

#print axioms high_step
end Go.Proofs.Ytcecfjblgakfeaa
