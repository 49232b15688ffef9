/- The law of normal names, walked. -/
import Derived.Test.YtcecfjblgakfeaaF18
namespace Go.Proofs.Ytcecfjblgakfeaa
open Go.RowKit
/-- A call that answers true and keeps what was there. -/
def Holds (w : World) (e : Ending) (w' : World) : Prop := e = .returned (.bool true) ∧ Below w.heap.size w w'
theorem Plain.norm {l : List UInt8} (h : Plain l) (hl : l.length ≤ 100) : Norms l l := fun w => norm_rel l l h.abs h.clean (by omega) w
theorem Plain.norm_abs {l : List UInt8} (h : Plain l) (hl : l.length ≤ 100) : Norms (47 :: l) l := fun w => Ytcecfjblgakfeaa.norm_abs (47 :: l) l (by simp [Lib.Pa.isAbs]) h.clean_abs h.ne (by simp; omega) w
theorem Plain.norm_behind {l : List UInt8} (h : Plain l) (hl : l.length ≤ 100) : Norms (l ++ [47]) l := fun w => norm_rel (l ++ [47]) l h.abs_behind h.clean_behind (by simp; omega) w
theorem Plain.norm_dot {l : List UInt8} (h : Plain l) (hl : l.length ≤ 100) : Norms (46 :: 47 :: l) l := fun w => norm_rel (46 :: 47 :: l) l (by simp [Lib.Pa.isAbs]) h.clean_dot (by simp; omega) w
set_option maxRecDepth 100000 in
set_option maxHeartbeats 1000000 in
theorem fnnormal_any (l : List UInt8) (w : World) : Calls Try.prog 4 #[.string ⟨l.toArray⟩] w (Holds w) := by
  rcases Nat.lt_or_ge 2147483647 l.length with hbig | hl
  · go_enter Try.func4, Try.ntmps4
    go_wp2
    go_ret
    exact ⟨rfl, Below.refl _ _⟩
  · have hsz : (ByteArray.mk l.toArray).size = l.length := by simp [ByteArray.size]
    have h1 : (⟨#[47]⟩ : ByteArray) ++ ⟨l.toArray⟩ = ⟨(47 :: l).toArray⟩ := by apply ByteArray.ext; simp
    have h2 : (⟨l.toArray⟩ : ByteArray) ++ ⟨#[47]⟩ = ⟨(l ++ [47]).toArray⟩ := by apply ByteArray.ext; simp
    have h3 : (⟨#[46, 47]⟩ : ByteArray) ++ ⟨l.toArray⟩ = ⟨(46 :: 47 :: l).toArray⟩ := by apply ByteArray.ext; simp
    go_enter Try.func4, Try.ntmps4
    go_wp2_with (go_at_call 15; refine (name_any l (by omega) _).mono ?_; rintro e w1 ⟨b, rfl, hb, rfl⟩; have HB := Lib.hid hb; clear hb)
    · refine (works_any _).mono ?_
      rintro e w2 ⟨rfl, hb2⟩
      go_wp2
      go_ret
      exact ⟨rfl, hb2⟩
    · have hbt : (!b) = false := by assumption
      have hg : GoodName l := HB.out (by simpa using hbt)
      have h60 := hg.2.1
      have N1 := Lib.hid (hg.1.norm (by omega))
      have N2 := Lib.hid (hg.1.norm_abs (by omega))
      have N3 := Lib.hid (hg.1.norm_behind (by omega))
      have N4 := Lib.hid (hg.1.norm_dot (by omega))
      clear hg HB
      refine (normal_any l l N1.out _).mono ?_
      rintro e w2 ⟨rfl, hb2⟩
      go_wp2_with fail
      refine (normal_any (47 :: l) l N2.out _).mono ?_
      rintro e w3 ⟨rfl, hb3⟩
      have hb23 := hb2.trans (hb3.mono hb2.size)
      go_wp2_with fail
      refine (normal_any (l ++ [47]) l N3.out _).mono ?_
      rintro e w4 ⟨rfl, hb4⟩
      have hb24 := hb23.trans (hb4.mono hb23.size)
      go_wp2_with fail
      refine (normal_any (46 :: 47 :: l) l N4.out _).mono ?_
      rintro e w5 ⟨rfl, hb5⟩
      have hb25 := hb24.trans (hb5.mono hb24.size)
      go_wp2_with fail
      refine (works_any _).mono ?_
      rintro e w6 ⟨rfl, hb6⟩
      have hb26 := hb25.trans (hb6.mono hb25.size)
      go_wp2
      go_ret
      exact ⟨rfl, hb26⟩
end Go.Proofs.Ytcecfjblgakfeaa
