/- The reference's test of a record. -/
import Derived.Test.YtcecfjblgakfeaaS5
import Derived.Test.YtcecfjblgakfeaaS3
namespace Go.Proofs.Ytcecfjblgakfeaa
open Go.RowKit
/-- The ten numbers that a record brings. -/
def Rec.ten (r : Rec) : List Nat := [r.ino, r.mode, r.uid, r.gid, r.nlink, r.mtime, r.major, r.minor, r.rmajor, r.rminor]
def Rec.Kind (r : Rec) : Prop := r.mode &&& 61440 = 32768 ∨ (r.mode &&& 61440 = 40960 ∧ r.data.length ≠ 0) ∨ ((r.mode &&& 61440 = 16384 ∨ r.mode &&& 61440 = 8192) ∧ r.data.length = 0)
def Low32 (l : List Nat) : Prop := ∀ n ∈ l, n < 4294967296
/-- What is known of a record that the reference calls proper. -/
def GoodRec (r : Rec) : Prop := (∀ n ∈ r.ten, n < 4294967296) ∧ GoodName r.name ∧ r.data.length ≤ 300 ∧ r.mode < 65536 ∧ r.Kind ∧ r.nlink = 1
def tenCells (r : Rec) : Array Value := #[.int .u64 r.ino, .int .u64 r.mode, .int .u64 r.uid, .int .u64 r.gid, .int .u64 r.nlink, .int .u64 r.mtime, .int .u64 r.major, .int .u64 r.minor, .int .u64 r.rmajor, .int .u64 r.rminor]
theorem ten_at (r : Rec) (k : Nat) (h : k < 10) : ∃ n, r.ten[k]? = some n ∧ (tenCells r)[k]? = some (.int .u64 (n : Int)) := by
  have : k < r.ten.length := h
  refine ⟨r.ten[k], List.getElem?_eq_getElem this, ?_⟩
  have e : tenCells r = (r.ten.map fun (n : Nat) => Value.int .u64 (n : Int)).toArray := rfl
  rw [e]
  simp [this]
set_option maxRecDepth 100000 in
set_option maxHeartbeats 1000000 in
theorem proper_any (x : In) (hf : Fits x) (hm : x.r.mode < 18446744073709551616) (w : World) : Calls Try.prog 21 #[.agg (recCells x.r x.A x.c)] w (FitsAns (GoodRec x.r) w) := by
  obtain ⟨w1, hw1⟩ : ∃ w1, w1 = (w.alloc (.cells (recCells x.r x.A x.c) 39)).alloc (.cells (tenCells x.r) 37) := ⟨_, rfl⟩
  have hbc0 := (Blk.new w 39 (recCells x.r x.A x.c)).cell
  have hbx : Blk w1 w.heap.size 39 (recCells x.r x.A x.c) := by rw [hw1]; exact (Blk.new _ _ _).alloc _
  have hten : Blk w1 (w.heap.size + 1) 37 (tenCells x.r) := by
    have := Blk.new (w.alloc (.cells (recCells x.r x.A x.c) 39)) 37 (tenCells x.r)
    rw [hw1]
    simpa using this
  have hb1 : Below w.heap.size w w1 := by rw [hw1]; exact ((Below.refl _ _).alloc (Nat.le_refl _) _).alloc (by simp) _
  have hand : bits .and .u64 (x.r.mode : Int) 61440 = ((x.r.mode &&& 61440 : Nat) : Int) := u64_and_nat x.r.mode 61440 hm (by omega)
  go_enter Try.func21, Try.ntmps21
  go_wp2
  go_loopw [27] (fun i wr => ∃ k : Nat, k ≤ 10 ∧ i = .int .i64 k ∧ Low32 (x.r.ten.take k) ∧ wr = w1)
    (fun i _ => 10 - (RowKit.intOf i).toNat)
  case atStart => exact ⟨0, Nat.zero_le _, rfl, (by simp [Low32]), hw1.symm⟩
  case round =>
    obtain ⟨k, hk, rfl, hlow, rfl⟩ := hrel
    have HW := Lib.hid hw1
    clear hbc0 hw1
    by_cases hlt : k < 10
    · obtain ⟨n, hn, hnc⟩ := ten_at x.r k hlt
      have hcell : wr.cell? ⟨w.heap.size + 1, k, none⟩ = some (.int .u64 (n : Int)) := by rw [hten.cell, hnc]
      clear hnc
      by_cases h32 : n < 4294967296
      · have h33 : decide ((4294967296 : Int) ≤ (n : Int)) = false := by simp; omega
        have HX := Lib.hid h32
        have HL := Lib.hid hlow
        clear h32 hlow
        go_wp2
        have hlow := HL.out
        have h32 := HX.out
        refine ⟨⟨k + 1, by omega, by go_num, ?_, trivial⟩, by simp [RowKit.intOf]; omega⟩
        intro m hm'
        rw [List.take_add_one, hn] at hm'
        rcases List.mem_append.1 hm' with h | h
        · exact hlow m h
        · simp at h
          omega
      · have h33 : (4294967296 : Int) ≤ n := by omega
        go_wp2
        go_ret
        exact ⟨false, rfl, (fun h => by cases h), hb1⟩
    · obtain rfl : k = 10 := by omega
      have hbc := hbx.cell
      go_wp2_with (go_at_call 15; refine (name_any x.r.name (by have := hf.1; omega) _).mono ?_; rintro e w2 ⟨bb, rfl, hbb, rfl⟩; have HB := Lib.hid hbb; clear hbb)
      all_goals first
        | (go_ret
           exact ⟨false, rfl, (fun h => by cases h), hb1⟩)
        | (go_ret
           refine ⟨_, rfl, (fun h => ?_), hb1⟩
           have hbt : bb = true := by assumption
           have hK : x.r.Kind := by
             unfold Rec.Kind
             simp only [beq_iff_eq, beq_eq_false_iff_ne] at *
             omega
           have h5 : x.r.data.length ≤ 300 ∧ x.r.mode < 65536 := by omega
           exact ⟨fun m hm' => hlow m hm', HB.out hbt, h5.1, h5.2, hK, by simp at h; omega⟩)
end Go.Proofs.Ytcecfjblgakfeaa
