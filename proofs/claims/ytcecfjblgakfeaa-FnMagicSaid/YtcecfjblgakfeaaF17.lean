/- Format of records that the reference calls proper. -/
import Derived.Test.YtcecfjblgakfeaaF15
import Derived.Test.YtcecfjblgakfeaaF16
namespace Go.Proofs.Ytcecfjblgakfeaa
open Go.RowKit
/-- What Format comes to. -/
def Formed (L : List UInt8) (w : World) (e : Ending) (w' : World) : Prop :=
  ∃ A1 c1, e = .returned (.tuple #[.slice A1 L.length c1, .bool true]) ∧ Own w' w.heap.size 5 1 (.slice A1 L.length c1) L.length (bv L) ∧ Below w.heap.size w w'
/-- The closure's run, as the call that keeps still asks for it. -/
theorem format1_quiet (rs : List In) (c gl gb gok : Nat) (vb vo : Value) (A : Option Addr) (hn20 : rs.length ≤ 20) (hsm : ∀ x ∈ rs, x.r.Small) (hpl : ∀ x ∈ rs, Plain x.r.name) (hnd : (rs.map fun x => x.r.name).Nodup) (hnt : ∀ x ∈ rs, x.r.name ≠ trailer) (L : List UInt8) (hL : Hid (L = encs (rs.map (·.r)) ++ trailerRec.enc)) (B : Nat) (w : World) (hB : B ≤ w.heap.size)
    (hd : ∀ x ∈ rs, Rd w B 1 x.A x.r.data.length (bv x.r.data)) (hr : Rd w B 12 A rs.length (inCells rs))
    (hl : Blk w gl 22 #[.slice A rs.length c]) (hb : Blk w gb 28 #[vb]) (hok : Blk w gok 4 #[vo]) :
    Calls Try.prog 22 #[.func (.func 23) #[] #[.pointer (some ⟨gl, 0, none⟩), .pointer (some ⟨gb, 0, none⟩), .pointer (some ⟨gok, 0, none⟩)]] w fun e w' => e = .returned (.bool true) ∧ ∃ w1 A1 c1, Below w.heap.size w w1 ∧ Own w1 (w.heap.size + 1) 5 1 (.slice A1 L.length c1) L.length (bv L) ∧ w' = ((w1.setCell ⟨gb, 0, none⟩ (.slice A1 L.length c1)).setCell ⟨gok, 0, none⟩ (.bool true)).setCell ⟨w.heap.size, 0, none⟩ (.bool true) := by
  have hb0 : Below w.heap.size w (w.alloc (.cells #[.bool false] 4)) := (Below.refl _ _).alloc (Nat.le_refl _) _
  have h := format1_any rs c gl gb gok vb vo A hn20 hsm hpl hnd hnt L hL (w.alloc (.cells #[.bool false] 4)) (fun x hx => ((hd x hx).more hB).below hb0 |>.more hb0.size) ((hr.more hB).below hb0 |>.more hb0.size) (hl.old hb0) (hb.old hb0) (hok.old hb0)
  refine (quietly_23 _ (fun w' => ∃ w1 A1 c1, Below w.heap.size w w1 ∧ Own w1 (w.heap.size + 1) 5 1 (.slice A1 L.length c1) L.length (bv L) ∧ w' = (w1.setCell ⟨gb, 0, none⟩ (.slice A1 L.length c1)).setCell ⟨gok, 0, none⟩ (.bool true)) w (h.mono ?_)).mono ?_
  · rintro e w' ⟨rfl, w1, A1, c1, hb1, ho1, rfl⟩
    have h1 : gb < w.heap.size := hb.lt
    have h2 : gok < w.heap.size := hok.lt
    refine ⟨rfl, ⟨w1, A1, c1, hb0.trans (hb1.mono hb0.size), ho1.more (by simp), rfl⟩, ?_⟩
    exact (((Blk.new w 4 #[.bool false]).old hb1).far (by simp; omega) _).far (by simp; omega) _
  · rintro e w' ⟨rfl, w1, ⟨w2, A1, c1, hb1, ho1, rfl⟩, hk, rfl⟩
    exact ⟨rfl, w2, A1, c1, hb1, ho1, rfl⟩
set_option maxRecDepth 100000 in
set_option maxHeartbeats 1000000 in
theorem format_any (rs : List In) (c : Nat) (A : Option Addr) (hn20 : rs.length ≤ 20) (hsm : ∀ x ∈ rs, x.r.Small) (hpl : ∀ x ∈ rs, Plain x.r.name) (hnd : (rs.map fun x => x.r.name).Nodup) (hnt : ∀ x ∈ rs, x.r.name ≠ trailer) (L : List UInt8) (hL : Hid (L = encs (rs.map (·.r)) ++ trailerRec.enc)) (w : World)
    (hd : ∀ x ∈ rs, Rd w w.heap.size 1 x.A x.r.data.length (bv x.r.data)) (hr : Rd w w.heap.size 12 A rs.length (inCells rs)) :
    Calls Try.prog 12 #[.slice A rs.length c] w (Formed L w) := by
  have hmf : ∀ (fn : Fn) (first cap : Array Value) (w : World), (Instr.makeFunc fn first cap).run Try.prog w = .ok (.func fn first cap) w := fun _ _ _ _ => rfl
  have b1 := Blk.new w 22 #[.slice A rs.length c]
  have b2 : Blk ((w.alloc (.cells #[.slice A rs.length c] 22)).alloc (.cells #[.slice none 0 0] 28)) (w.heap.size + 1) 28 #[.slice none 0 0] := by
    have := Blk.new (w.alloc (.cells #[.slice A rs.length c] 22)) 28 #[.slice none 0 0]
    simpa using this
  have b3 : Blk (((w.alloc (.cells #[.slice A rs.length c] 22)).alloc (.cells #[.slice none 0 0] 28)).alloc (.cells #[.bool false] 4)) (w.heap.size + 2) 4 #[.bool false] := by
    have := Blk.new ((w.alloc (.cells #[.slice A rs.length c] 22)).alloc (.cells #[.slice none 0 0] 28)) 4 #[.bool false]
    simpa using this
  have hb0 : Below w.heap.size w (((w.alloc (.cells #[.slice A rs.length c] 22)).alloc (.cells #[.slice none 0 0] 28)).alloc (.cells #[.bool false] 4)) := (((Below.refl _ _).alloc (Nat.le_refl _) _).alloc (by simp) _).alloc (by simp; omega) _
  have hs0 : (((w.alloc (.cells #[.slice A rs.length c] 22)).alloc (.cells #[.slice none 0 0] 28)).alloc (.cells #[.bool false] 4)).heap.size = w.heap.size + 3 := by simp
  have hcall := format1_quiet rs c w.heap.size (w.heap.size + 1) (w.heap.size + 2) _ _ A hn20 hsm hpl hnd hnt L hL w.heap.size _ hb0.size (fun x hx => (hd x hx).below hb0) (hr.below hb0) ((b1.alloc _).alloc _) (b2.alloc _) b3
  have HC := Lib.hid hcall
  clear hcall
  go_enter Try.func12, Try.ntmps12
  go_wp2_with (
     go_at_call 22
     refine HC.out.mono ?_
     rintro e w1 ⟨rfl, w2, A1, c1, hb1, ho1, rfl⟩
     rw [hs0] at ho1 ⊢
     have e1 := ((((b2.alloc (.cells #[.bool false] 4)).old hb1).set_ 0 (.slice A1 L.length c1)).far (p := ⟨w.heap.size + 2, 0, none⟩) (by simp) (.bool true)).far (p := ⟨w.heap.size + 3, 0, none⟩) (by simp) (.bool true)
     have e2 := (((b3.old hb1).far (p := ⟨w.heap.size + 1, 0, none⟩) (by simp) (.slice A1 L.length c1)).set_ 0 (.bool true)).far (p := ⟨w.heap.size + 3, 0, none⟩) (by simp) (.bool true)
     have ho3 := ((ho1.set_ (p := ⟨w.heap.size + 1, 0, none⟩) (ho1.blk_ne ((b2.alloc (.cells #[.bool false] 4)).old hb1) (by decide)) (.slice A1 L.length c1)).set_ (p := ⟨w.heap.size + 2, 0, none⟩) (ho1.blk_ne (b3.old hb1) (by decide)) (.bool true)).set_ (p := ⟨w.heap.size + 3, 0, none⟩) (fun h => by have := (ho1.lt _ h).1; simp at this) (.bool true)
     have hbl := (((hb0.trans (hb1.mono hb0.size)).setCell (p := ⟨w.heap.size + 1, 0, none⟩) (by simp) (.slice A1 L.length c1)).setCell (p := ⟨w.heap.size + 2, 0, none⟩) (by simp) (.bool true)).setCell (p := ⟨w.heap.size + 3, 0, none⟩) (by simp) (.bool true)
     generalize ((w2.setCell ⟨w.heap.size + 1, 0, none⟩ (.slice A1 L.length c1)).setCell ⟨w.heap.size + 2, 0, none⟩ (.bool true)).setCell ⟨w.heap.size + 3, 0, none⟩ (.bool true) = w3 at *
     have y1 : w3.cell? ⟨w.heap.size + 1, 0, none⟩ = some (.slice A1 L.length c1) := by rw [e1.cell]; rfl
     have y2 : w3.cell? ⟨w.heap.size + 1 + 1, 0, none⟩ = some (.bool true) := by rw [e2.cell]; rfl
     have z1 := e1.frozen 0
     have z2 : w3.frozen? ⟨w.heap.size + 1 + 1, 0, none⟩ = false := e2.frozen 0)
  have e3 : Blk w3 (w.heap.size + 1) 28 #[.slice A1 L.length c1] := e1
  have e4 : Blk w3 (w.heap.size + 2) 4 #[.bool true] := e2
  have e5 := ((e3.set_ 0 (.slice A1 L.length c1)).far (p := ⟨w.heap.size + 1 + 1, 0, none⟩) (by simp) (.bool true)).cell 0
  have e6 := ((e4.far (p := ⟨w.heap.size + 1, 0, none⟩) (by simp) (.slice A1 L.length c1)).set_ 0 (.bool true)).cell 0
  simp at e5 e6
  refine bodyPost_ret (v := .tuple #[.slice A1 L.length c1, .bool true]) (by simp [results, Try.results12, go_sem, e5, e6]) rfl ⟨A1, c1, rfl, ?_, ?_⟩
  · exact ((ho3.set_ (p := ⟨w.heap.size + 1, 0, none⟩) (ho3.blk_ne e3 (by decide)) _).set_ (p := ⟨w.heap.size + 2, 0, none⟩) (ho3.blk_ne e4 (by decide)) _).more (by omega)
  · exact (hbl.setCell (p := ⟨w.heap.size + 1, 0, none⟩) (by simp) _).setCell (p := ⟨w.heap.size + 2, 0, none⟩) (by simp) _
end Go.Proofs.Ytcecfjblgakfeaa
