/- The reference's comparison of records. -/
import Derived.Sort.AtCall
import Derived.Test.YtcecfjblgakfeaaS7
import Derived.Test.YtcecfjblgakfeaaF19
namespace Go.Proofs.Ytcecfjblgakfeaa
open Go.RowKit
/-- Slices of records lie us these, below block B. -/
def Lies (w : World) (B : Nat) (A : Option Addr) (n : Nat) (rs : List In) : Prop := n = rs.length ∧ Rd w B 12 A n (inCells rs) ∧ ∀ x ∈ rs, Rd w B 1 x.A x.r.data.length (bv x.r.data)
theorem Lies.below {w w' : World} {B n : Nat} {A : Option Addr} {rs : List In} (h : Lies w B A n rs) (hb : Below B w w') : Lies w' B A n rs := ⟨h.1, h.2.1.below hb, fun x hx => (h.2.2 x hx).below hb⟩
theorem neq_same (l : List UInt8) : ((⟨l.toArray⟩ : ByteArray).toList != (⟨l.toArray⟩ : ByteArray).toList) = false := by simp
/-- The cells of element k, one by one. -/
def Elem (w : World) (b o : Nat) (x : In) : Prop := w.cell? ⟨b, o, none⟩ = some (.int .u64 x.r.ino) ∧ ∀ j, j < 12 → w.cell? ⟨b, o + j, none⟩ = (recCells x.r x.A x.c)[j]?
theorem Elem.of_range {w : World} {b o : Nat} {x : In} (h : w.rangeAt b o (recCells x.r x.A x.c).toList) : Elem w b o x :=
  ⟨h 0 _ rfl, fun j hj => by
    have hl : j < (recCells x.r x.A x.c).toList.length := by simpa using hj
    rw [h j _ (List.getElem?_eq_getElem hl)]
    rw [← List.getElem?_eq_getElem hl]
    simp⟩
theorem Elem.below {w w' : World} {B b o : Nat} {x : In} (h : Elem w b o x) (hb : Below B w w') (hlt : b < B) : Elem w' b o x :=
  ⟨(hb.cell (by exact hlt)).trans h.1, fun j hj => (hb.cell (by exact hlt)).trans (h.2 j hj)⟩
set_option maxRecDepth 100000 in
set_option maxHeartbeats 2000000 in
theorem same_any (us vs : List In) (hab : us.map (·.r) = vs.map (·.r)) (hfit : ∀ x ∈ us, x.r.Fit) (n c c' B : Nat) (A A' : Option Addr) (hn : n ≤ 1000000) (w : World) (hB : B ≤ w.heap.size) (ha : Lies w B A n us) (hb : Lies w B A' n vs) :
    Calls Try.prog 14 #[.slice A n c, .slice A' n c'] w (Holds w) := by
  obtain ⟨rfl, hra, hda⟩ := ha
  obtain ⟨hnb, hrb, hdb⟩ := hb
  go_enter Try.func14, Try.ntmps14
  go_wp2
  go_loopw [13] (fun i wr => ∃ k : Nat, k ≤ us.length ∧ i = .int .i64 k ∧ Below w.heap.size w wr)
    (fun i _ => us.length - (RowKit.intOf i).toNat)
  case atStart => exact ⟨0, Nat.zero_le _, rfl, Below.refl _ _⟩
  case round =>
    obtain ⟨k, hk, rfl, hbl⟩ := hrel
    by_cases hlt : k < us.length
    · obtain ⟨b, off, x, rfl, hx, hbb, hrg⟩ := in_range hra (hbl.mono hB) rfl hlt
      obtain ⟨b', off', y, rfl, hy, hbb', hrg'⟩ := in_range hrb (hbl.mono hB) hnb hlt
      have hxy : y.r = x.r := by
        have h1 : (us.map (·.r))[k]? = some x.r := by simp [hx]
        have h2 : (vs.map (·.r))[k]? = some y.r := by simp [hy]
        rw [hab, h2] at h1
        injection h1
      have hxm : x ∈ us := List.mem_of_getElem? hx
      have hym : y ∈ vs := List.mem_of_getElem? hy
      have hfx := hfit x hxm
      have hfy : y.r.Fit := hxy ▸ hfx
      have E1 := Elem.of_range hrg
      have E2 := Elem.of_range hrg'
      have e11 := E1.1
      have e12 := E1.2
      have e21 := E2.1
      have e22 := E2.2
      clear hrg hrg'
      have hblB := hbl.mono hB
      have hwr : B ≤ wr.heap.size := Nat.le_trans hB hbl.size
      have call1 : ∀ W, Below B w W → Calls Try.prog 18 #[RecV x.r x.A x.c] W (RetOwn W.heap.size [5] x.r.enc W) := fun W hW => by
        exact written_any x.r hfx x.A x.c B W (Nat.le_trans hB hW.size) ((hda x hxm).below hW)
      have call2 : ∀ W, Below B w W → Calls Try.prog 18 #[RecV y.r y.A y.c] W (RetOwn W.heap.size [5] x.r.enc W) := fun W hW => by
        rw [← hxy]
        exact written_any y.r hfy y.A y.c B W (Nat.le_trans hB hW.size) ((hdb y hym).below hW)
      have C1 := Lib.hid call1
      have C2 := Lib.hid call2
      have HXY := Lib.hid hxy
      clear call1 call2 hxy
      have hk0 : (0 : Int) ≤ (k : Int) := by omega
      have hk1 : (k : Int) < (us.length : Int) := by omega
      go_wp2_with fail
      have d11 : wr.drew.cell? ⟨b, off + k * 12, none⟩ = some (.int .u64 x.r.ino) := e11
      have d12 : ∀ j, j < 12 → wr.drew.cell? ⟨b, off + k * 12 + j, none⟩ = (recCells x.r x.A x.c)[j]? := e12
      have d21 : wr.drew.cell? ⟨b', off' + k * 12, none⟩ = some (.int .u64 y.r.ino) := e21
      have d22 : ∀ j, j < 12 → wr.drew.cell? ⟨b', off' + k * 12 + j, none⟩ = (recCells y.r y.A y.c)[j]? := e22
      go_region_with (first
        | (go_at_call_has 18 (y.r.ino)
           refine (C2.out _ (by exact hb1w)).mono ?_
           rintro e w2 ⟨A2, c2, rfl, ho2, hf2⟩
           have hb2 : Below w1.heap.size w1 w2 := hf2.below (Nat.le_refl _)
           have hb2w := hb1w.trans (hb2.mono (Nat.le_trans hB hb1w.size))
           have G1 := F1.below hb2 (by have := hb1w.size; omega)
           have G2 := F2.below hb2 (by have := hb1w.size; omega)
           have g21 := G2.1
           have g22 := G2.2
           have s2 := run_str w2 28 9 5 w2.heap.size A2 x.r.enc.length c2 x.r.enc Try.underlying28 Try.underlying5 Try.underlying9 ho2.rd
           have s3 := run_str w2 28 9 5 w2.heap.size A1 x.r.enc.length c1 x.r.enc Try.underlying28 Try.underlying5 Try.underlying9 (ho1.old hb2).rd)
        | (go_at_call_has 18 (x.r.ino)
           refine (C1.out _ (by exact below_drewN hblB 1)).mono ?_
           rintro e w1 ⟨A1, c1, rfl, ho1, hf1⟩
           have hb1 : Below wr.drew.heap.size wr.drew w1 := hf1.below (Nat.le_refl _)
           have hb1w : Below B w w1 := (below_drewN hblB 1).trans (hb1.mono hwr)
           have F1 := (E1.below (below_drewN (Below.refl wr.heap.size wr) 1) (by omega)).below hb1 (by simp; omega)
           have F2 := (E2.below (below_drewN (Below.refl wr.heap.size wr) 1) (by omega)).below hb1 (by simp; omega)
           have f11 := F1.1
           have f12 := F1.2
           have f21 := F2.1
           have f22 := F2.2
           have s1 := run_str w1 28 9 5 w1.heap.size A1 x.r.enc.length c1 x.r.enc Try.underlying28 Try.underlying5 Try.underlying9 ho1.rd))
      all_goals
        have hlast := hbl.trans (((below_drewN (Below.refl wr.heap.size wr) 1).trans (hb1.mono (Nat.le_refl _))).mono hbl.size)
        have hlast2 := hlast.trans (hb2.mono hlast.size)
        clear s1 s2 s3 e11 e12 e21 e22 d11 d12 d21 d22 f11 f12 f21 f22 g21 g22
        go_wp2
        exact ⟨⟨k + 1, by omega, by go_num, hlast2⟩, by simp [RowKit.intOf]; omega⟩
    · obtain rfl : k = us.length := by omega
      go_wp2
      go_ret
      exact ⟨rfl, hbl⟩
end Go.Proofs.Ytcecfjblgakfeaa
