/- The reader reads bytes at its place. -/
import Derived.Test.YtcecfjblgakfeaaP1
import Derived.Test.YtcecfjblgakfeaaP5
import Derived.Deep.RegionHeld3
namespace Go.Proofs.Ytcecfjblgakfeaa
open Go.RowKit
set_option maxRecDepth 100000 in
set_option maxHeartbeats 400000 in
/-- The header's numbers as the package's Info, without a name. -/
theorem info_any (r : Rec) (h : r.Small) (w : World) :
    Calls Try.prog 84 #[.agg (hdrCells r)] w fun e w' => e = .returned (.agg #[.int .u64 r.ino, .int .u64 r.mode, .int .u64 r.uid, .int .u64 r.gid, .int .u64 r.nlink, .int .u64 r.mtime, .int .u64 r.data.length, .int .u64 0, .int .u64 r.major, .int .u64 r.minor, .int .u64 r.rmajor, .int .u64 r.rminor, .string ⟨#[]⟩]) ∧ Below w.heap.size w w' := by
  obtain ⟨h1, h2, h3, h4, h5, h6, h7, h8, h9, h10, h11, h12⟩ := h
  go_enter Try.func84, Try.ntmps84
  go_wp2
  exact bodyPost_ret (v := .agg #[.int .u64 r.ino, .int .u64 r.mode, .int .u64 r.uid, .int .u64 r.gid, .int .u64 r.nlink, .int .u64 r.mtime, .int .u64 r.data.length, .int .u64 0, .int .u64 r.major, .int .u64 r.minor, .int .u64 r.rmajor, .int .u64 r.rminor, .string ⟨#[]⟩]) (by simp [results, Try.results84, go_sem]) rfl ⟨rfl, (((Below.refl _ _).alloc (Nat.le_refl _) _).alloc (by simp) _).alloc (by simp; omega) _⟩
theorem m71 (a : Addr) (w : World) : (method 292 71 (.pointer (some a)) "ReadAt").run Try.prog w = .ok (67, .pointer (some a)) w := by kernel_rfl
theorem n71 (a : Addr) (w : World) : (nilAhead 292 71 (.pointer (some a)) "ReadAt").run Try.prog w = .ok (some false) w := by kernel_rfl
theorem nil_eof (w : World) : (binOp .eql 57 .nilIface EOFV).run Try.prog w = .ok (.bool false) w := by kernel_rfl
/-- What a read of bytes at the reader's position comes to. -/
def ReadTo (gR gp : Nat) (v : Value) (pos : Nat) (l : List UInt8) (w : World) (e : Ending) (w' : World) : Prop :=
  e = .returned .nilIface ∧ Rst w' gR 71 v pos ∧ Blk w' gp 5 (bv l).toArray ∧ Onl (fun k => k = gR ∨ k = gp) w w'
theorem splice_all (l : List UInt8) (cur : List Value) (h : l.length = cur.length) : splice cur 0 (bv l) = bv l := by
  simp only [splice, List.take_zero, List.nil_append, bv_len]
  rw [List.drop_eq_nil_of_le (by omega), List.append_nil]
set_option maxRecDepth 100000 in
set_option maxHeartbeats 1000000 in
theorem rread_any (gR g B b off n c gp m cp pos pos' : Nat) (d l : List UInt8) (cur : List Value) (w : World) (hR : Rst w gR 71 (.pointer (some ⟨g, 0, none⟩)) pos) (hb : Blk w g 73 #[.slice (some ⟨b, off, none⟩) n c, .int .i64 0])
    (hr : Rd w B 1 (some ⟨b, off, none⟩) n (bv d)) (hnc : n ≤ c) (hn9 : n ≤ 1000000) (hm : pos + m ≤ n) (hpos : pos' = pos + m) (hm0 : 0 < m) (hp : Blk w gp 5 cur.toArray) (hcur : cur.length = m) (hl : Hid (l = (d.drop pos).take m)) :
    Calls Try.prog 80 #[.pointer (some ⟨gR, 0, none⟩), .slice (some ⟨gp, 0, none⟩) m cp] w (ReadTo gR gp (.pointer (some ⟨g, 0, none⟩)) pos' l w) := by
  have c1 : w.cell? ⟨gR, 1, none⟩ = some (.iface 71 (.pointer (some ⟨g, 0, none⟩))) := by rw [hR.cell]; rfl
  have c2 : w.cell? ⟨gR, 2, none⟩ = some (.int .i64 pos) := by rw [hR.cell]; rfl
  have hne : gR ≠ gp := hR.ne_ hp (by decide)
  have hcall := fun k => readat_full g B b off n c gp m cp pos d cur (w.drewN k) (hb.drewN k) (hr.drewN k) hnc (by omega) (by omega) hm0 (hp.drewN k) (by omega)
  have hll : l.length = cur.length := by
    have := hr.1
    rw [bv_len] at this
    rw [hl.out, List.length_take, List.length_drop]
    omega
  rw [← hl.out, splice_all l cur hll] at hcall
  have HC := Lib.hid hcall
  have HP := Lib.hid hpos
  have hmt := fun W => m71 ⟨g, 0, none⟩ W
  have he := fun W => nil_eof W
  clear hcall hll hcur hpos
  go_enter Try.func80, Try.ntmps80
  go_wp2
  go_region_held3 (fun w' => w'.cell? ⟨gR, 1, none⟩ = some (.iface 71 (.pointer (some ⟨g, 0, none⟩))) ∧ w'.cell? ⟨gR, 2, none⟩ = some (.int .i64 pos)) (go_keep)
    (first
      | (go_at_call 67
         refine (HC.out _).mono ?_
         rintro e w1 ⟨rfl, hw1, hg1⟩
         have hR1 : Blk w1 gR 141 _ := (hg1.block gR hR.lt (fun e => hne (by injection e with e))).trans hR
         have d1 : w1.cell? ⟨gR, 1, none⟩ = some (.iface 71 (.pointer (some ⟨g, 0, none⟩))) := by rw [hR1.cell]; rfl
         have d2 : w1.cell? ⟨gR, 2, none⟩ = some (.int .i64 pos) := by rw [hR1.cell]; rfl))
  all_goals
    have hf2 := hR1.frozen 2
    go_wp2
    go_ret
    have hset := hR1.set_ 2 (.int .i64 (pos' : Int))
    have e : (pos : Int) + (m : Int) = (pos' : Int) := by rw [HP.out]; omega
    rw [e]
    refine ⟨rfl, by simpa [Rst] using hset, hw1.far (by simpa using hne.symm) _, ?_⟩
    exact (((Onl.refl (fun k => k = gp) w).drewN 1).trans (Onl.of_grown hg1) (fun _ _ h => h)).mono (Q := fun k => k = gR ∨ k = gp) (fun _ _ h => .inr h) |>.set_ (fun _ => .inl rfl) _
set_option maxRecDepth 100000 in
set_option maxHeartbeats 1000000 in
theorem raligned_any (gR g B b off n c gp m cp pos pos' pos2 : Nat) (d l : List UInt8) (cur : List Value) (w : World) (hR : Rst w gR 71 (.pointer (some ⟨g, 0, none⟩)) pos) (hb : Blk w g 73 #[.slice (some ⟨b, off, none⟩) n c, .int .i64 0])
    (hr : Rd w B 1 (some ⟨b, off, none⟩) n (bv d)) (hnc : n ≤ c) (hn9 : n ≤ 1000000) (hm : pos + m ≤ n) (hpos : pos' = pos + m) (hpos2 : pos2 = (pos' + 3) / 4 * 4) (hm0 : 0 < m) (hp : Blk w gp 5 cur.toArray) (hcur : cur.length = m) (hl : Hid (l = (d.drop pos).take m)) :
    Calls Try.prog 83 #[.pointer (some ⟨gR, 0, none⟩), .slice (some ⟨gp, 0, none⟩) m cp] w (ReadTo gR gp (.pointer (some ⟨g, 0, none⟩)) pos2 l w) := by
  have hcall := rread_any gR g B b off n c gp m cp pos pos' d l cur w hR hb hr hnc hn9 hm hpos hm0 hp hcur hl
  have HC := Lib.hid hcall
  have hp9 : pos' ≤ 1000000 := by omega
  have hne : gR ≠ gp := hR.ne_ hp (by decide)
  have HP := Lib.hid hpos2
  clear hcall hpos hcur hpos2
  go_enter Try.func83, Try.ntmps83
  go_wp2_with fail
  refine HC.out.mono ?_
  rintro e w1 ⟨rfl, hR1, hw1, ho1⟩
  have d2 : w1.cell? ⟨gR, 2, none⟩ = some (.int .i64 pos') := by rw [hR1.cell]; rfl
  have hf2 := hR1.frozen 2
  have hrd := fun W => round4_any pos' (by omega) W
  rw [← HP.out] at hrd
  go_wp2_with (go_at_call 85; refine (hrd _).mono ?_; rintro e w2 ⟨rfl, rfl⟩)
  go_ret
  have hset := hR1.set_ 2 (.int .i64 (pos2 : Int))
  exact ⟨rfl, by simpa [Rst] using hset, hw1.far (by simpa using hne.symm) _, ho1.set_ (fun _ => .inl rfl) _⟩
end Go.Proofs.Ytcecfjblgakfeaa
