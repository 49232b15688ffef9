/- The header of a record, and its bytes, the highest first. -/

import Derived.Test.YtcecfjblgakfeaaF2
namespace Go.Proofs.Ytcecfjblgakfeaa
open Go.RowKit
/-- The numbers of a record fit 32 bits, its name and data are short. -/
structure Rec.Small (r : Rec) : Prop where
  ino : r.ino < 4294967296
  mode : r.mode < 4294967296
  uid : r.uid < 4294967296
  gid : r.gid < 4294967296
  nlink : r.nlink < 4294967296
  mtime : r.mtime < 4294967296
  major : r.major < 4294967296
  minor : r.minor < 4294967296
  rmajor : r.rmajor < 4294967296
  rminor : r.rminor < 4294967296
  name : r.name.length ≤ 100
  data : r.data.length ≤ 300
theorem Rec.Small.fit {r : Rec} (h : r.Small) : r.Fit := by
  obtain ⟨h1, h2, h3, h4, h5, h6, h7, h8, h9, h10, h11, h12⟩ := h
  constructor <;> omega
/-- The package's Info of a record, and its header. -/
abbrev InfoV (r : Rec) : Value :=
  .agg #[.int .u64 r.ino, .int .u64 r.mode, .int .u64 r.uid, .int .u64 r.gid, .int .u64 r.nlink, .int .u64 r.mtime, .int .u64 r.data.length, .int .u64 0, .int .u64 r.major, .int .u64 r.minor, .int .u64 r.rmajor, .int .u64 r.rminor, .string ⟨r.name.toArray⟩]
abbrev hdrCells (r : Rec) : Array Value :=
  #[.int .u32 r.ino, .int .u32 r.mode, .int .u32 r.uid, .int .u32 r.gid, .int .u32 r.nlink, .int .u32 r.mtime, .int .u32 r.data.length, .int .u32 r.major, .int .u32 r.minor, .int .u32 r.rmajor, .int .u32 r.rminor, .int .u32 (r.name.length + 1), .int .u32 0]
set_option maxRecDepth 100000 in
set_option maxHeartbeats 400000 in
theorem header_any (r : Rec) (h : r.Small) (w : World) :
    Calls Try.prog 92 #[InfoV r] w fun e w' => e = .returned (.agg (hdrCells r)) ∧ Below w.heap.size w w' := by
  obtain ⟨h1, h2, h3, h4, h5, h6, h7, h8, h9, h10, h11, h12⟩ := h
  unfold InfoV
  go_enter Try.func92, Try.ntmps92
  go_wp2
  exact bodyPost_ret (v := .agg (hdrCells r)) (by simp [results, Try.results92, go_sem]) rfl ⟨rfl, (((Below.refl _ _).alloc (Nat.le_refl _) _).alloc (by simp) _).alloc (by simp; omega) _⟩
/-- Four bytes of a number, the highest first. -/
def be (n : Nat) : List UInt8 := [UInt8.ofNat (n / 16777216), UInt8.ofNat (n / 65536), UInt8.ofNat (n / 256), UInt8.ofNat n]
def bes (xs : List Nat) : List UInt8 := xs.flatMap be
theorem bv_be (n : Nat) (h : n < 4294967296) : bv (be n) = [.int .u8 ((n : Int) / 16777216), .int .u8 ((n : Int) / 65536 % 256), .int .u8 ((n : Int) / 256 % 256), .int .u8 ((n : Int) % 256)] := by
  simp [bv, be]
  omega
theorem bes_len (xs : List Nat) : (bes xs).length = 4 * xs.length := by
  induction xs with
  | nil => rfl
  | cons a l ih => simp only [bes, List.flatMap_cons, List.length_append] at ih ⊢; rw [ih]; simp [be]; omega
theorem bes_snoc (l : List Nat) (n : Nat) : bes (l ++ [n]) = bes l ++ be n := by simp [bes]
set_option maxRecDepth 100000 in
set_option maxHeartbeats 400000 in
theorem be_any (xs : List Nat) (hx : ∀ n ∈ xs, n < 4294967296) (hl : xs.length ≤ 100) (B : Nat) (A : Option Addr) (c : Nat) (w : World) (hB : B ≤ w.heap.size)
    (hr : Rd w B 1 A xs.length (xs.map fun (n : Nat) => Value.int .u32 (n : Int))) :
    Calls Try.prog 96 #[.slice none 0 0, .slice A xs.length c] w (RetOwn w.heap.size [5] (bes xs) w) := by
  go_enter Try.func96, Try.ntmps96
  go_wp2
  go_loopw [0, 9] (fun v i wr => ∃ (k : Nat) (A' : Option Addr) (c' : Nat) (l : List UInt8), k ≤ xs.length ∧ i = .int .i64 k ∧ v = .slice A' l.length c' ∧ Own wr w.heap.size 5 1 (.slice A' l.length c') l.length (bv l) ∧ Hid (l = bes (xs.take k)) ∧ Fr w.heap.size [5] w wr) (fun _ i _ => xs.length - (intOf i).toNat)
  case atStart => exact ⟨0, none, 0, [], by omega, rfl, rfl, Own.nil_ _ _ _ _, rfl, Fr.refl _ _ _⟩
  case round =>
    obtain ⟨k, A', c', l, hk, rfl, rfl, hown, hl', hfr⟩ := hrel
    have hsz := hfr.size
    by_cases hlt : k < xs.length
    · have hr1 := hr.below ((hfr.below (Nat.le_refl _)).mono hB)
      obtain ⟨b, off, rfl, hbB, hc⟩ := hr1.at1 hlt
      have hv : xs[k] < 4294967296 := hx _ (List.getElem_mem hlt)
      have hc' : wr.cell? ⟨b, off + k, none⟩ = some (.int .u32 (xs[k] : Nat)) := by rw [hc]; simp [hlt]
      obtain ⟨n, hn⟩ : ∃ n, n = xs[k] := ⟨_, rfl⟩
      rw [← hn] at hv hc'
      have HN := Lib.hid hn
      clear hn hc
      obtain ⟨L, hL⟩ : ∃ L, L = l ++ be n := ⟨_, rfl⟩
      have hLl : L.length = l.length + 4 := by rw [hL]; simp [be]
      have hll : l.length ≤ 400 := by rw [hl'.out, bes_len, List.length_take]; omega
      have HLL := Lib.hid hLl
      have HL := Lib.hid hL
      clear hL hLl
      have hnew := new_rd wr (bv (be n)) 5
      rw [bv_be n hv] at hnew
      go_wp2_with (at_builtin; refine wpList_appb _ rfl (.tmp 13) (.tmp 25) rfl w.heap.size (.slice A' l.length c') _ l rfl (hown.alloc _) (wr.heap.size + 1) _ 4 4 (be n) rfl (by rw [bv_be n hv]; exact hnew) L HL (by omega) (by simp; omega) ?_; intro A1 c1 w1 hown1 hg1 hat1)
      have hR := own_row (hown.alloc (.cells #[.int .u8 ((n : Int) / 16777216), .int .u8 ((n : Int) / 65536 % 256), .int .u8 ((n : Int) / 256 % 256), .int .u8 ((n : Int) % 256)] 5)) (S := [5]) (by simp)
      refine ⟨⟨k + 1, A1, c1, L, by omega, by go_num, rfl, hown1, (show _ = _ from ?_), (hfr.alloc _).grown hg1 hR⟩, by simp [intOf]; omega⟩
      rw [HL.out, hl'.out, List.take_add_one, List.getElem?_eq_getElem hlt, Option.toList_some, bes_snoc, HN.out]
    · have hk1 : k = xs.length := by omega
      subst hk1
      have e : l = bes xs := by rw [hl'.out, List.take_length]
      subst e
      go_wp2
      go_ret
      exact ⟨A', c', rfl, hown, hfr⟩
end Go.Proofs.Ytcecfjblgakfeaa
