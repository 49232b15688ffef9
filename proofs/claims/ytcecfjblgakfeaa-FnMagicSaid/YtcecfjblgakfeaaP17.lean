/- Parse of an archive. -/
import Derived.Test.YtcecfjblgakfeaaP16
import Derived.Test.YtcecfjblgakfeaaF15
import Derived.Test.YtcecfjblgakfeaaS9
namespace Go.Proofs.Ytcecfjblgakfeaa
open Go.RowKit
/-- What Parse answers. -/
def ParseAns (bad : Bool) (rs : List Rec) (w : World) (e : Ending) (w' : World) : Prop :=
  Below w.heap.size w w' ∧ ((bad = true ∧ e = .returned (.tuple #[.slice none 0 0, .bool false])) ∨
    (bad = false ∧ ∃ A c ins, e = .returned (.tuple #[.slice A rs.length c, .bool true]) ∧ rs.length ≤ c ∧ Lies w' w'.heap.size A rs.length ins ∧ ins.map (·.r) = rs))
set_option maxRecDepth 100000 in
set_option maxHeartbeats 1000000 in
theorem parse_any (bad : Bool) (rs : List Rec) (tail : List UInt8) (ht : Tail bad tail) (hsm : ∀ r ∈ rs, r.Small) (hnt : ∀ r ∈ rs, r.name ≠ trailer) (hn20 : rs.length ≤ 20) (n c : Nat) (A : Option Addr) (d : List UInt8) (hd : d = encs rs ++ tail) (hn : n = d.length) (hn9 : n ≤ 1000000) (w : World)
    (hdat : Rd w w.heap.size 1 A n (bv d)) :
    Calls Try.prog 19 #[.slice A n c] w (ParseAns bad rs w) := by
  have hmf : ∀ (fn : Fn) (first cap : Array Value) (w : World), (Instr.makeFunc fn first cap).run Try.prog w = .ok (.func fn first cap) w := fun _ _ _ _ => rfl
  obtain ⟨W, hW⟩ : ∃ W, W = ((w.alloc (.cells #[.slice A n c] 28)).alloc (.cells #[.slice none 0 0] 22)).alloc (.cells #[.bool false] 4) := ⟨_, rfl⟩
  have b1 : Blk W w.heap.size 28 #[.slice A n c] := by rw [hW]; exact ((Blk.new _ _ _).alloc _).alloc _
  have b2 : Blk W (w.heap.size + 1) 22 #[.slice none 0 0] := by rw [hW]; exact (Blk.new_at _ 22 _ (by simp)).alloc _
  have b3 : Blk W (w.heap.size + 2) 4 #[.bool false] := by rw [hW]; exact Blk.new_at _ 4 _ (by simp)
  have hb0 : Below w.heap.size w W := by rw [hW]; exact (((Below.refl _ _).alloc (Nat.le_refl _) _).alloc (by simp) _).alloc (by simp; omega) _
  have hs0 : W.heap.size = w.heap.size + 3 := by rw [hW]; simp
  have hbW : Below W.heap.size W (W.alloc (.cells #[.bool false] 4)) := (Below.refl _ _).alloc (Nat.le_refl _) _
  have hsW : (W.alloc (.cells #[.bool false] 4)).heap.size = W.heap.size + 1 := by simp
  have h1 := parse1_any bad rs tail ht hsm hnt hn20 w.heap.size (w.heap.size + 1) (w.heap.size + 2) n c A _ d hd hn hn9 (W.alloc (.cells #[.bool false] 4)) (((hdat.below hb0).more (by omega)).alloc (Nat.le_refl _) _ |>.more (by simp)) (b1.alloc _) (b2.alloc _) (b3.alloc _)
  have hcall := quietly_30 _ (fun w' => Parsed bad rs (w.heap.size + 1) (w.heap.size + 2) (W.alloc (.cells #[.bool false] 4)) (.returned (.tuple #[])) w') W (h1.mono (by
    rintro e w' ⟨rfl, hc⟩
    refine ⟨rfl, ⟨rfl, hc⟩, ?_⟩
    rcases hc with ⟨_, ho⟩ | ⟨_, ho, _⟩
    · exact ho.blk (Blk.new W 4 _) (fun e => e)
    · exact ho.blk (Blk.new W 4 _) (fun e => by omega)))
  rw [hW] at hcall
  have HC := Lib.hid hcall
  clear hcall h1 hd hn
  cases bad
  · go_enter Try.func19, Try.ntmps19
    go_wp2_with (
       go_at_call 22
       refine HC.out.mono ?_
       rintro e w1 ⟨rfl, w2, ⟨_, hc⟩, hk, rfl⟩
       rw [← hW] at hc hk ⊢
       rw [hs0] at hk ⊢
       rcases hc with ⟨hbd, _⟩ | ⟨_, ho, A4, c4, ins, hl2, hk2, hown2, hmap, hdat2⟩
       · cases hbd
       have e1 := hl2.far (p := ⟨w.heap.size + 3, 0, none⟩) (by simp) (.bool true)
       have e2 := hk2.far (p := ⟨w.heap.size + 3, 0, none⟩) (by simp) (.bool true)
       have hb2 : Below w.heap.size w w2 := (hb0.trans (hbW.mono hb0.size)).trans (ho.below (by rw [hsW]; omega) (fun k _ e => by omega))
       have hb3 := hb2.setCell (p := ⟨w.heap.size + 3, 0, none⟩) (by simp) (.bool true)
       have hown3 := hown2.set_ (p := ⟨w.heap.size + 3, 0, none⟩) (hown2.blk_ne hk (by decide)) (.bool true)
       have hdat3 := fun y hy => (hdat2 y hy).set_ (p := ⟨w.heap.size + 3, 0, none⟩) ((hdat2 y hy).blk_ne hk (by decide)) (.bool true)
       generalize w2.setCell ⟨w.heap.size + 3, 0, none⟩ (.bool true) = w3 at *
       have y1 : w3.cell? ⟨w.heap.size + 1, 0, none⟩ = some (.slice A4 rs.length c4) := by rw [e1.cell]; rfl
       have y2 : w3.cell? ⟨w.heap.size + 1 + 1, 0, none⟩ = some (.bool true) := by rw [e2.cell]; rfl
       have z1 := e1.frozen 0
       have z2 : w3.frozen? ⟨w.heap.size + 1 + 1, 0, none⟩ = false := e2.frozen 0)
    have e3 : Blk w3 (w.heap.size + 1) 22 #[.slice A4 rs.length c4] := e1
    have e4 : Blk w3 (w.heap.size + 2) 4 #[.bool true] := e2
    have e5 := ((e3.set_ 0 (.slice A4 rs.length c4)).far (p := ⟨w.heap.size + 1 + 1, 0, none⟩) (by simp) (.bool true)).cell 0
    have e6 := ((e4.far (p := ⟨w.heap.size + 1, 0, none⟩) (by simp) (.slice A4 rs.length c4)).set_ 0 (.bool true)).cell 0
    simp at e5 e6
    have ho4 := (hown3.set_ (p := ⟨w.heap.size + 1, 0, none⟩) (hown3.blk_ne e3 (by decide)) (.slice A4 rs.length c4)).set_ (p := ⟨w.heap.size + 2, 0, none⟩) (hown3.blk_ne e4 (by decide)) (.bool true)
    have hd4 := fun y hy => ((hdat3 y hy).set_ (p := ⟨w.heap.size + 1, 0, none⟩) ((hdat3 y hy).blk_ne e3 (by decide)) (.slice A4 rs.length c4)).set_ (p := ⟨w.heap.size + 2, 0, none⟩) ((hdat3 y hy).blk_ne e4 (by decide)) (.bool true)
    refine bodyPost_ret (v := .tuple #[.slice A4 rs.length c4, .bool true]) (by simp [results, Try.results19, go_sem, e5, e6]) rfl ⟨?_, .inr ⟨rfl, A4, c4, ins, rfl, ho4.cap, ⟨?_, ho4.rd, fun y hy => (hd4 y hy).rd⟩, hmap⟩⟩
    · exact (hb3.setCell (p := ⟨w.heap.size + 1, 0, none⟩) (by simp) _).setCell (p := ⟨w.heap.size + 1 + 1, 0, none⟩) (by show w.heap.size ≤ w.heap.size + 1 + 1; omega) _
    · have := congrArg List.length hmap
      simpa using this.symm
  · go_enter Try.func19, Try.ntmps19
    go_wp2_with (
       go_at_call 22
       refine HC.out.mono ?_
       rintro e w1 ⟨rfl, w2, ⟨_, hc⟩, hk, rfl⟩
       rw [← hW] at hc hk ⊢
       rw [hs0] at hk ⊢
       rcases hc with ⟨_, ho⟩ | ⟨hbd, _⟩
       rotate_left
       · cases hbd
       have e1 := (ho.blk (b2.alloc (.cells #[.bool false] 4)) (fun e => e)).far (p := ⟨w.heap.size + 3, 0, none⟩) (by simp) (.bool true)
       have e2 := (ho.blk (b3.alloc (.cells #[.bool false] 4)) (fun e => e)).far (p := ⟨w.heap.size + 3, 0, none⟩) (by simp) (.bool true)
       have hb2 : Below w.heap.size w w2 := (hb0.trans (hbW.mono hb0.size)).trans (ho.below (by rw [hsW]; omega) (fun k _ e => e.elim))
       have hb3 := hb2.setCell (p := ⟨w.heap.size + 3, 0, none⟩) (by simp) (.bool true)
       generalize w2.setCell ⟨w.heap.size + 3, 0, none⟩ (.bool true) = w3 at *
       have y1 : w3.cell? ⟨w.heap.size + 1, 0, none⟩ = some (.slice none 0 0) := by rw [e1.cell]; rfl
       have y2 : w3.cell? ⟨w.heap.size + 1 + 1, 0, none⟩ = some (.bool false) := by rw [e2.cell]; rfl
       have z1 := e1.frozen 0
       have z2 : w3.frozen? ⟨w.heap.size + 1 + 1, 0, none⟩ = false := e2.frozen 0)
    have e3 : Blk w3 (w.heap.size + 1) 22 #[.slice none 0 0] := e1
    have e4 : Blk w3 (w.heap.size + 2) 4 #[.bool false] := e2
    have e5 := ((e3.set_ 0 (.slice none 0 0)).far (p := ⟨w.heap.size + 1 + 1, 0, none⟩) (by simp) (.bool false)).cell 0
    have e6 := ((e4.far (p := ⟨w.heap.size + 1, 0, none⟩) (by simp) (.slice none 0 0)).set_ 0 (.bool false)).cell 0
    simp at e5 e6
    refine bodyPost_ret (v := .tuple #[.slice none 0 0, .bool false]) (by simp [results, Try.results19, go_sem, e5, e6]) rfl ⟨?_, .inl ⟨rfl, rfl⟩⟩
    exact (hb3.setCell (p := ⟨w.heap.size + 1, 0, none⟩) (by simp) _).setCell (p := ⟨w.heap.size + 1 + 1, 0, none⟩) (by show w.heap.size ≤ w.heap.size + 1 + 1; omega) _
end Go.Proofs.Ytcecfjblgakfeaa
