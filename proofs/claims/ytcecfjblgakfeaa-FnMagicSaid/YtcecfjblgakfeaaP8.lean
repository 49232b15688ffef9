/- A record of another magic number is an error. -/
import Derived.Test.YtcecfjblgakfeaaP7
namespace Go.Proofs.Ytcecfjblgakfeaa
open Go.RowKit
set_option maxRecDepth 100000 in
set_option maxHeartbeats 400000 in
theorem errnew_any (s : ByteArray) (w : World) : Calls Try.prog 43 #[.string s] w fun e w' => e = .returned (.iface 109 (.pointer (some ⟨w.heap.size, 0, none⟩))) ∧ Below w.heap.size w w' := by
  go_enter Try.func43, Try.ntmps43
  go_wp2
  go_ret
  exact ⟨rfl, (Below.refl _ _).alloc (Nat.le_refl _) _⟩
/-- A zero record of the package's. -/
abbrev zRec : Array Value := #[.nilIface, .int .u64 0, .int .u64 0, .int .u64 0, .int .u64 0, .int .u64 0, .int .u64 0, .int .u64 0, .int .u64 0, .int .u64 0, .int .u64 0, .int .u64 0, .int .u64 0, .string ⟨#[]⟩, .int .i64 0, .int .u64 0, .int .i64 0]
/-- An error by its text is handed back. -/
def Erred (P : Nat → Prop) (w : World) (e : Ending) (w' : World) : Prop := ∃ p, e = .returned (.tuple #[.agg zRec, .iface 109 (.pointer p)]) ∧ Onl P w w'
set_option maxRecDepth 100000 in
set_option maxHeartbeats 4000000 in
theorem rbad_any (gR g b off B n c pos : Nat) (d l : List UInt8) (w : World) (hR : Rst w gR 71 (.pointer (some ⟨g, 0, none⟩)) pos) (hb : Blk w g 73 #[.slice (some ⟨b, off, none⟩) n c, .int .i64 0])
    (hr : Rd w B 1 (some ⟨b, off, none⟩) n (bv d)) (hnc : n ≤ c) (hn9 : n ≤ 1000000) (hBR : B ≤ gR) (hd : (d.drop pos).take 110 = l) (hpl : pos + 110 ≤ n) (hbad : (l.take 6 == magic) = false) :
    Calls Try.prog 79 #[.pointer (some ⟨gR, 0, none⟩)] w (Erred (fun k => k = gR) w) := by
  have hdl : d.length = n := by have := hr.1; rw [bv_len] at this; omega
  obtain ⟨z1, hz1, hmk1⟩ : ∃ z1 : List Value, z1.length = 110 ∧ ∀ W, (Instr.makeSlice 28 (.int .i64 110) (.int .i64 110)).run Try.prog W = .ok (.slice (some ⟨W.heap.size, 0, none⟩) 110 110) (W.alloc (.cells z1.toArray 5)) :=
    ⟨List.replicate 110 (.int .u8 0), List.length_replicate, fun W => mk_bytes 110 (by omega) W⟩
  have hcall := fun gp W h1 h2 h3 h4 => rread_any gR g B b off n c gp 110 110 pos (pos + 110) d l z1 W h1 h2 h3 hnc hn9 (by omega) rfl (by omega) h4 hz1 (Lib.hid (hd.symm))
  have HC1 := Lib.hid hcall
  have c2 : w.cell? ⟨gR, 2, none⟩ = some (.int .i64 pos) := by rw [hR.cell]; rfl
  have hglt := hR.lt
  have hglt2 := hb.lt
  clear hcall
  have HDL := Lib.hid hdl
  have hl110 : l.length = 110 := by rw [← hd, List.length_take, List.length_drop]; omega
  have HLL := Lib.hid hl110
  obtain ⟨m6, hm6⟩ : ∃ m6, m6 = l.take 6 := ⟨_, rfl⟩
  have HM6 := Lib.hid hm6
  rw [← hm6] at hbad
  clear hdl hd hl110 hm6
  clear hz1
  go_enter Try.func79, Try.ntmps79
  go_wp2_with fail
  refine (HC1.out _ _ (((hR.alloc _).alloc _).alloc _) (((hb.alloc _).alloc _).alloc _) (hr.below ((((Below.refl B w).alloc (by omega) _).alloc (by simp; omega) _).alloc (by simp; omega) _)) (Blk.new_at _ 5 z1.toArray (by simp))).mono ?_
  rintro e w1 ⟨rfl, hR1, hf1, ho1⟩
  have hT1 : Blk w1 w.heap.size 54 #[.nilIface, .int .u64 0, .int .u64 0, .int .u64 0, .int .u64 0, .int .u64 0, .int .u64 0, .int .u64 0, .int .u64 0, .int .u64 0, .int .u64 0, .int .u64 0, .int .u64 0, .string ⟨#[]⟩, .int .i64 0, .int .u64 0, .int .i64 0] := ho1.blk (((Blk.new w 54 _).alloc _).alloc _) (by omega)
  have hH1 : Blk w1 (w.heap.size + 1) 156 #[.int .u32 0, .int .u32 0, .int .u32 0, .int .u32 0, .int .u32 0, .int .u32 0, .int .u32 0, .int .u32 0, .int .u32 0, .int .u32 0, .int .u32 0, .int .u32 0, .int .u32 0] := ho1.blk ((Blk.new_at _ 156 _ (by simp)).alloc _) (by omega)
  have hb1 : Blk w1 g 73 #[.slice (some ⟨b, off, none⟩) n c, .int .i64 0] := ho1.blk (((hb.alloc _).alloc _).alloc _) (fun e => e.elim (fun e => hb.ne_ hR (by decide) e) (fun e => by have := hb.lt; omega))
  have ho1 : Onl (fun k => k = gR) w w1 := ((((Onl.refl _ w).alloc _).alloc _).alloc _).tr ho1 (fun k hk h => h.elim id (fun e => by omega))
  have hr1 : Rd w1 B 1 (some ⟨b, off, none⟩) n (bv d) := ho1.rd hr (by omega) (fun k _ e => by omega)
  have hsz1 : w.heap.size + 1 + 1 < w1.heap.size := hf1.lt
  have hmg : Rd w1 w1.heap.size 1 (some ⟨w.heap.size + 1 + 1, 0, none⟩) 6 (bv m6) := ⟨by rw [bv_len, HM6.out, List.length_take, HLL.out]; rfl, fun _ => ⟨_, 0, rfl, hsz1, fun j u hu => by
    have hj : j < 6 := by
      have := (List.getElem?_eq_some_iff.1 hu).1
      rw [bv_len, HM6.out, List.length_take] at this
      omega
    rw [Nat.zero_add, hf1.cell, List.getElem?_toArray]
    rw [HM6.out, ← bv_take, List.getElem?_take, if_pos hj] at hu
    exact hu⟩⟩
  have hcv := run_str (P := Try.prog) w1 28 9 5 _ _ 6 110 m6 Try.underlying28 Try.underlying5 Try.underlying9 hmg
  have cm : w1.cell? ⟨gR, 0, none⟩ = some (.string ⟨magic.toArray⟩) := by rw [hR1.cell]; rfl
  clear hmg hR hb hr c2 HC1
  go_wp2_with fail
  refine (errnew_any _ _).mono ?_
  rintro e w2 ⟨rfl, hb2⟩
  have hT2 := hT1.old hb2
  have hone : zRec.all (·.oneCell') = true := by simp [Value.oneCell']
  go_wp2_with (refine wpList_store_row rfl 54 (.tmp 2) (.tmp 40) rfl w.heap.size zRec rfl rfl 54 _ hT2 info54 (by simp) hone ?_)
  have ho2 : Onl (fun k => k = gR) w w2 := ho1.tr (Onl.of_below (P := fun k => k = gR) hb2) (fun _ _ h => h)
  have hx9 := setRow_blk (cells := zRec) hT2
  have hg9 := setRow_grown w2 w.heap.size zRec
  generalize w2.setRow w.heap.size _ = w9 at *
  have ho20 : Onl (fun k => k = gR) w w9 := ho2.tr (Onl.of_grown hg9) (fun k hk e => by omega)
  have hxc := hx9.cell
  clear hx9 hg9 ho2 hT2 hT1 hH1 hb1 hR1 hr1 hcv cm
  exact bodyPost_ret (v := .tuple #[.agg zRec, .iface 109 (.pointer (some ⟨w1.heap.size, 0, none⟩))]) (by simp [results, Try.results79, go_sem, hxc]) rfl
    ⟨_, rfl, ho20⟩
end Go.Proofs.Ytcecfjblgakfeaa
