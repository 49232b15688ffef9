/- The law of formats, walked. -/
import Derived.Test.YtcecfjblgakfeaaS10
import Derived.Test.YtcecfjblgakfeaaS9
namespace Go.Proofs.Ytcecfjblgakfeaa
open Go.RowKit
theorem GoodRec.small {r : Rec} (h : GoodRec r) : r.Small := by
  obtain ⟨h1, h2, h3, h4, h5, h6⟩ := h
  have m := fun n (hn : n ∈ r.ten) => h1 n hn
  refine ⟨m _ ?_, m _ ?_, m _ ?_, m _ ?_, m _ ?_, m _ ?_, m _ ?_, m _ ?_, m _ ?_, m _ ?_, by have := h2.2.1; omega, h3⟩ <;> simp [Rec.ten]
set_option maxRecDepth 100000 in
set_option maxHeartbeats 2000000 in
theorem fnformat_any (rs : List In) (n c : Nat) (A : Option Addr) (hnc : n ≤ c) (hm : ∀ x ∈ rs, x.r.mode < 18446744073709551616) (w : World) (hl : Lies w w.heap.size A n rs) :
    Calls Try.prog 3 #[.slice A n c] w (Holds w) := by
  obtain ⟨rfl, hr, hd⟩ := hl
  go_enter Try.func3, Try.ntmps3
  go_wp2_with fail
  refine (fits_any rs rs.length c A rfl w hr).mono ?_
  rintro e w1 ⟨b1, rfl, hfit, hb1⟩
  cases b1
  · go_wp2
    go_ret
    exact ⟨rfl, hb1⟩
  · obtain ⟨hbig, hfx⟩ := hfit rfl
    clear hfit
    go_wp2_with fail
    refine (conv_any rs rs.length c A rfl hbig w1 ((hr.below hb1).more hb1.size)).mono ?_
    rintro e w2 ⟨v2, rfl, ho2, hb2⟩
    obtain ⟨A2, c2, rfl, hc2, hm2, hr2⟩ := ho2.shape
    have hb02 := hb1.trans (hb2.mono hb1.size)
    by_cases h20 : rs.length ≤ 20
    · go_wp2_with fail
      refine (recs_any rs rs.length c2 A2 rfl hc2 hbig hfx hm w2.heap.size w2 (Nat.le_refl _) hr2).mono ?_
      rintro e w3 ⟨b3, rfl, hgood, hb3⟩
      have hb03 := hb02.trans (hb3.mono hb02.size)
      cases b3
      · clear hgood
        go_wp2_with fail
        refine (works_any _).mono ?_
        rintro e w4 ⟨rfl, hb4⟩
        go_wp2
        go_ret
        exact ⟨rfl, hb03.trans (hb4.mono hb03.size)⟩
      · obtain ⟨h10, hgr, hpw⟩ := hgood rfl
        clear hgood
        have hsm : ∀ x ∈ rs, x.r.Small := fun x hx => (hgr x hx).small
        obtain ⟨L, hL⟩ : ∃ L, L = encs (rs.map (·.r)) ++ trailerRec.enc := ⟨_, rfl⟩
        have hLl : L.length ≤ 100000 := by
          have h1 := encs_len (rs.map (·.r)) (fun r hr' => by obtain ⟨x, hx, rfl⟩ := List.mem_map.1 hr'; exact hsm x hx)
          have h2 : trailerRec.enc.length ≤ 200 := by decide
          rw [hL, List.length_append]
          rw [List.length_map] at h1
          omega
        have HL := Lib.hid hL
        have HGR := Lib.hid hgr
        have HPW := Lib.hid hpw
        clear hL hgr hpw
        go_wp2_with fail
        refine (format_any rs c A h20 hsm (fun x hx => (HGR.out x hx).2.1.1) ?_ (fun x hx => (HGR.out x hx).2.1.not_trailer) L HL w3 (fun x hx => ((hd x hx).below hb03).more hb03.size) ((hr.below hb03).more hb03.size)).mono ?_
        · rw [List.nodup_iff_pairwise_ne, List.pairwise_map]
          exact HPW.out.imp fun h => h.1
        rintro e w4 ⟨A4, c4, rfl, ho4, hb4⟩
        have hb04 := hb03.trans (hb4.mono hb03.size)
        have hr4 := ho4.rd
        have hc4 := ho4.cap
        have hcm4 : c4 ≤ maxLen := by
          obtain ⟨_, _, e, _, h2, _⟩ := ho4.shape
          injection e with _ _ e3
          omega
        go_wp2_with fail
        refine (read_any (rs.map (·.r)) trailerRec rfl trailer_small (fun r hr' => by obtain ⟨x, hx, rfl⟩ := List.mem_map.1 hr'; exact hsm x hx) (fun r hr' => by obtain ⟨x, hx, rfl⟩ := List.mem_map.1 hr'; exact (HGR.out x hx).2.1.not_trailer) L.length c4 w4.heap.size A4 (by rw [HL.out]) hc4 hcm4 (by omega) (by simp; omega) w4 (Nat.le_refl _) (by rw [← HL.out]; exact hr4)).mono ?_
        rintro e w5 ⟨v5, ins, rfl, ho5, hmap, hdat5, hb5⟩
        have hb05 := hb04.trans (hb5.mono hb04.size)
        rw [List.length_map] at ho5
        obtain ⟨A5, c5, rfl, hc5, _, hr5⟩ := ho5.shape
        have hl1 : Lies w5 w5.heap.size A5 rs.length ins := ⟨by
          have := congrArg List.length hmap
          simpa using this.symm, hr5, fun x hx => (hdat5 x hx).more hb5.size⟩
        have hb25 : Below w2.heap.size w2 w5 := hb3.trans ((hb4.trans (hb5.mono hb4.size)).mono hb3.size)
        have hl2 : Lies w5 w5.heap.size A2 rs.length rs := ⟨rfl, (hr2.below hb25).more hb25.size, fun x hx => ((hd x hx).below hb05).more hb05.size⟩
        have hfit : ∀ x ∈ ins, x.r.Fit := fun x hx => by
          have : x.r ∈ rs.map (·.r) := by rw [← hmap]; exact List.mem_map_of_mem hx
          obtain ⟨y, hy, e⟩ := List.mem_map.1 this
          rw [← e]
          exact (hsm y hy).fit
        have hcall := same_any ins rs hmap hfit rs.length c5 c2 w5.heap.size A5 A2 (by omega) w5 (Nat.le_refl _) hl1 hl2
        have HC := Lib.hid hcall
        clear hcall hmap hfit hl1 hl2 hdat5 hr5 ho5 hb25
        go_wp2_with fail
        refine HC.out.mono ?_
        rintro e w6 ⟨rfl, hb6⟩
        have hb06 := hb05.trans (hb6.mono hb05.size)
        go_wp2_with fail
        refine (works_any _).mono ?_
        rintro e w7 ⟨rfl, hb7⟩
        go_wp2
        go_ret
        exact ⟨rfl, hb06.trans (hb7.mono hb06.size)⟩
    · have h21 : (20 : Int) < rs.length := by omega
      go_wp2_with fail
      refine (works_any _).mono ?_
      rintro e w4 ⟨rfl, hb4⟩
      go_wp2
      go_ret
      exact ⟨rfl, hb02.trans (hb4.mono hb02.size)⟩
end Go.Proofs.Ytcecfjblgakfeaa
