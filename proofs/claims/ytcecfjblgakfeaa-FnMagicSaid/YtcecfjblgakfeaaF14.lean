/- Records are written with the trailer behind them into bytes. -/
import Derived.Test.YtcecfjblgakfeaaF13
namespace Go.Proofs.Ytcecfjblgakfeaa
open Go.RowKit
theorem m90 (v : Value) (w : World) : (method 292 90 (.agg #[v]) "Writer").run Try.prog w = .ok (71, .agg #[v]) w := by kernel_rfl
/-- What comes of records that are written with the trailer behind them. -/
def Zw (L : List UInt8) (w : World) (e : Ending) (w' : World) : Prop :=
  ∃ A c, e = .returned (.tuple #[.slice A L.length c, .nilIface]) ∧ Own w' w.heap.size 5 1 (.slice A L.length c) L.length (bv L) ∧ Below w.heap.size w w'
set_option maxRecDepth 100000 in
set_option maxHeartbeats 400000 in
theorem newc_any (w : World) : Calls Try.prog 35 #[] w fun e w' => e = .returned (.iface 90 (.agg #[.string ⟨magic.toArray⟩])) ∧ w' = w := by
  go_enter Try.func35, Try.ntmps35
  go_wp2
  go_ret
  exact ⟨rfl, rfl⟩
set_option maxRecDepth 100000 in
set_option maxHeartbeats 1000000 in
theorem zzwrite_any (ps : List (Rec × Nat)) (c : Nat) (A : Option Addr) (hn20 : ps.length ≤ 20) (hsm : ∀ p ∈ ps, p.1.Small) (hpl : ∀ p ∈ ps, Plain p.1.name) (hnd : (ps.map fun p => p.1.name).Nodup) (hnt : ∀ p ∈ ps, p.1.name ≠ trailer) (L : List UInt8) (hL : Hid (L = encs (ps.map (·.1)) ++ trailerRec.enc)) (w : World)
    (hh : ∀ p ∈ ps, Held w w.heap.size p.1 p.2 ∧ p.2 < w.heap.size) (hr : Rd w w.heap.size 17 A ps.length (recsCells ps)) :
    Calls Try.prog 25 #[.slice A ps.length c, .bool true] w (Zw L w) := by
  have hmt := fun W => m90 (.string ⟨magic.toArray⟩) W
  go_enter Try.func25, Try.ntmps25
  go_wp2_with (first
    | (go_at_call 35
       refine (newc_any _).mono ?_
       rintro e w1 ⟨rfl, rfl⟩))
  refine (newwriter_any w.heap.size w.heap.size _ (Blk.new w 75 _) (Nat.le_refl _)).mono ?_
  rintro e w2 ⟨gW, gD, gM, rfl, hst2, hb2⟩
  have hb02 : Below w.heap.size w w2 := ((Below.refl _ _).alloc (Nat.le_refl _) _).trans (hb2.mono (by simp))
  go_wp2_with fail
  refine (records_any ps c w.heap.size gW w.heap.size gD gM A ps.length rfl hn20 hsm hpl hnd w2 hst2 (fun p hp => ⟨(hh p hp).1.keep (hh p hp).2 hb02, (hh p hp).2⟩) (hr.below hb02)).mono ?_
  rintro e w3 ⟨rfl, hst3, hb3⟩
  go_wp2_with fail
  have hnt' : trailer ∉ (ps.map fun p => p.1.name).reverse := by
    rw [List.mem_reverse]
    intro hm
    obtain ⟨q, hq, e⟩ := List.mem_map.1 hm
    exact hnt q hq e
  have hsm' : ∀ r ∈ ps.map (·.1), r.Small := fun r hr' => by
    obtain ⟨q, hq, rfl⟩ := List.mem_map.1 hr'
    exact hsm q hq
  have hle := encs_len _ hsm'
  rw [List.length_map] at hle
  refine (wtrailer_any w.heap.size gW w.heap.size gD gM _ L _ hL (Lib.hid (encs_mod _)) (by omega) w3 hst3 hnt' (by simp; omega)).mono ?_
  rintro e w4 ⟨rfl, hst4, hb4⟩
  obtain ⟨A4, c4, hB4, ho4, _⟩ := hst4.1.2.2
  have hc4 : w4.cell? ⟨w.heap.size, 0, none⟩ = some (.slice A4 L.length c4) := by rw [hB4.cell]; rfl
  go_wp2
  go_ret2
  exact ⟨A4, c4, rfl, ho4, (hb02.trans hb3).trans hb4⟩
end Go.Proofs.Ytcecfjblgakfeaa
