/- Records and the trailer are written one behind the other. -/
import Derived.Test.YtcecfjblgakfeaaF10
import Derived.Test.YtcecfjblgakfeaaF12
import Derived.Deep.MidRow
namespace Go.Proofs.Ytcecfjblgakfeaa
open Go.RowKit
theorem m148 (a : Addr) (w : World) : (method 292 148 (.pointer (some a)) "WriteRecord").run Try.prog w = .ok (98, .pointer (some a)) w := by kernel_rfl
theorem n148 (a : Addr) (w : World) : (nilAhead 292 148 (.pointer (some a)) "WriteRecord").run Try.prog w = .ok (some false) w := by kernel_rfl
/-- Records with the blocks of their readers, as the cells of a slice. -/
def recsCells (ps : List (Rec × Nat)) : List Value := ps.flatMap fun p => (cRecCells p.1 p.2).toList
/-- The bytes of records, one behind the other. -/
def encs (l : List Rec) : List UInt8 := l.flatMap Rec.enc
theorem recsCells_len (ps : List (Rec × Nat)) : (recsCells ps).length = ps.length * 17 := by
  induction ps with
  | nil => rfl
  | cons p ps ih =>
    have : recsCells (p :: ps) = (cRecCells p.1 p.2).toList ++ recsCells ps := rfl
    rw [this, List.length_append, ih, List.length_cons]
    simp
    omega
theorem recsCells_at : ∀ (ps : List (Rec × Nat)) (k : Nat) (p : Rec × Nat), ps[k]? = some p → ∀ j, j < 17 → (recsCells ps)[k * 17 + j]? = (cRecCells p.1 p.2)[j]?
  | [], k, p, h, _, _ => by simp at h
  | q :: ps, 0, p, h, j, hj => by
    simp only [List.getElem?_cons_zero, Option.some.injEq] at h
    subst h
    have : recsCells (q :: ps) = (cRecCells q.1 q.2).toList ++ recsCells ps := rfl
    rw [this, Nat.zero_mul, Nat.zero_add, List.getElem?_append_left (by simpa using hj)]
    simp
  | q :: ps, k + 1, p, h, j, hj => by
    have : recsCells (q :: ps) = (cRecCells q.1 q.2).toList ++ recsCells ps := rfl
    rw [this, List.getElem?_append_right (by simp; omega)]
    have e : (k + 1) * 17 + j - (cRecCells q.1 q.2).toList.length = k * 17 + j := by simp; omega
    rw [e]
    exact recsCells_at ps k p (by simpa using h) j hj
theorem encs_snoc (l : List Rec) (r : Rec) : encs (l ++ [r]) = encs l ++ r.enc := by simp [encs]
theorem encs_mod (l : List Rec) : (encs l).length % 4 = 0 := by
  induction l with
  | nil => rfl
  | cons r l ih =>
    have : encs (r :: l) = r.enc ++ encs l := rfl
    rw [this, List.length_append]
    have := r.enc_mod
    omega
theorem encs_len (l : List Rec) (h : ∀ r ∈ l, r.Small) : (encs l).length ≤ 530 * l.length := by
  induction l with
  | nil => simp [encs]
  | cons r l ih =>
    have e : encs (r :: l) = r.enc ++ encs l := rfl
    have hs := h r (by simp)
    have h1 := hs.name
    have h2 := hs.data
    have h3 := r.enc_len
    have h4 := r.front_len
    have := ih fun x hx => h x (by simp [hx])
    rw [e, List.length_append, List.length_cons]
    omega
theorem Names.old {w w' : World} {gM : Nat} {ns : List (List UInt8)} (h : Names w gM ns) (hb : Below w.heap.size w w') : Names w' gM ns := by
  obtain ⟨D, h1, h2⟩ := h
  exact ⟨D, om_below h1 hb h1.lt, h2⟩
theorem Dst.old {w w' : World} {base gW gB gD gM : Nat} {l : List UInt8} {ns : List (List UInt8)} (h : Dst w base gW gB gD gM l ns) (hb : Below w.heap.size w w') : Dst w' base gW gB gD gM l ns :=
  ⟨h.1.old hb, h.2.1.old hb, h.2.2.1.old hb, h.2.2.2⟩
set_option maxRecDepth 100000 in
set_option maxHeartbeats 1000000 in
theorem records_any (ps : List (Rec × Nat)) (c base gW gB gD gM : Nat) (A : Option Addr) (n : Nat) (hn : n = ps.length) (hn20 : n ≤ 20) (hsm : ∀ p ∈ ps, p.1.Small) (hpl : ∀ p ∈ ps, Plain p.1.name) (hnd : (ps.map fun p => p.1.name).Nodup) (w : World)
    (hw : Dst w base gW gB gD gM [] []) (hh : ∀ p ∈ ps, Held w base p.1 p.2 ∧ p.2 < base) (hr : Rd w base 17 A n (recsCells ps)) :
    Calls Try.prog 36 #[.iface 148 (.pointer (some ⟨gD, 0, none⟩)), .slice A n c] w (WroteD base gW gB gD gM (encs (ps.map (·.1))) ((ps.map fun p => p.1.name).reverse) w) := by
  subst hn
  go_enter Try.func36, Try.ntmps36
  go_wp2
  go_loopw [10] (fun i wr => ∃ k : Nat, k ≤ ps.length ∧ i = .int .i64 k ∧ Dst wr base gW gB gD gM (encs ((ps.take k).map (·.1))) ((ps.take k).map fun p => p.1.name).reverse ∧ Below base w wr)
    (fun i _ => ps.length - (intOf i).toNat)
  case atStart => exact ⟨0, Nat.zero_le _, rfl, hw, Below.refl _ _⟩
  case round =>
    obtain ⟨k, hk, rfl, hst, hb⟩ := hrel
    by_cases hlt : k < ps.length
    · have hlt' : k < ps.length := by omega
      obtain ⟨b, off, rfl, hbb, hc⟩ := (hr.below hb).at_ hlt
      obtain ⟨p, hp⟩ : ∃ p, ps[k]? = some p := ⟨ps[k], List.getElem?_eq_getElem hlt'⟩
      have hpm : p ∈ ps := List.mem_of_getElem? hp
      obtain ⟨cs, hcs⟩ : ∃ cs, cs = (cRecCells p.1 p.2).toList := ⟨_, rfl⟩
      have hrg : wr.rangeAt b (off + k * 17) cs := fun j v hv => by
        have hj : j < 17 := by
          have := (List.getElem?_eq_some_iff.1 hv).1
          rw [hcs] at this
          simpa using this
        rw [hc j hj, recsCells_at ps k p hp j hj, ← hv, hcs]
        simp
      have hsz : cs.length = 17 := by rw [hcs]; rfl
      have hi54 : (Try.prog.info? 54).map (·.size) = some cs.length := by rw [hsz]; exact info54
      have hone : cs.toArray.all (·.oneCell') = true := by rw [hcs]; exact cells_one p.1 p.2
      have hbx : Blk ((wr.alloc (.cells #[.nilIface, .int .u64 0, .int .u64 0, .int .u64 0, .int .u64 0, .int .u64 0, .int .u64 0, .int .u64 0, .int .u64 0, .int .u64 0, .int .u64 0, .int .u64 0, .int .u64 0, .string ⟨#[]⟩, .int .i64 0, .int .u64 0, .int .i64 0] 54)).setRow wr.heap.size cs.toArray) wr.heap.size 54 cs.toArray := setRow_blk (Blk.new _ _ _)
      have hbw : Below wr.heap.size wr ((wr.alloc (.cells #[.nilIface, .int .u64 0, .int .u64 0, .int .u64 0, .int .u64 0, .int .u64 0, .int .u64 0, .int .u64 0, .int .u64 0, .int .u64 0, .int .u64 0, .int .u64 0, .int .u64 0, .string ⟨#[]⟩, .int .i64 0, .int .u64 0, .int .i64 0] 54)).setRow wr.heap.size cs.toArray) := ((Below.refl _ _).alloc (Nat.le_refl _) _).grown (setRow_grown _ _ _) (by simp) (fun j hj => by cases hj; exact Nat.le_refl _)
      have hrg2 : World.rangeAt ((wr.alloc (.cells #[.nilIface, .int .u64 0, .int .u64 0, .int .u64 0, .int .u64 0, .int .u64 0, .int .u64 0, .int .u64 0, .int .u64 0, .int .u64 0, .int .u64 0, .int .u64 0, .int .u64 0, .string ⟨#[]⟩, .int .i64 0, .int .u64 0, .int .i64 0] 54)).setRow wr.heap.size cs.toArray) wr.heap.size 0 cs := fun j v hv => by rw [Nat.zero_add, hbx.cell]; simpa using hv
      have HCS := Lib.hid hcs
      clear hcs hc hbb
      have hmt := fun W => m148 ⟨gD, 0, none⟩ W
      go_wp2_with (first
        | (refine wpList_load_mid rfl 54 (.tmp 12) rfl b (off + k * 17) rfl cs _ hrg Try.underlying54 rfl hi54 ?_)
        | (refine wpList_store_row rfl 54 (.tmp 6) (.tmp 13) rfl wr.heap.size cs.toArray rfl rfl 54 _ (Blk.new _ _ _) (by simpa using hi54) (by simp [hsz]) hone ?_)
        | (refine wpList_load_mid rfl 54 (.tmp 6) rfl wr.heap.size 0 rfl cs _ hrg2 Try.underlying54 rfl hi54 ?_))
      clear hrg hrg2 hbx
      generalize (wr.alloc _).setRow wr.heap.size cs.toArray = w1 at *
      obtain ⟨hph, hpg⟩ := hh p hpm
      have etk : ps.take (k + 1) = ps.take k ++ [p] := by rw [List.take_add_one, hp]; rfl
      have hsmk : ∀ r ∈ (ps.take k).map (·.1), r.Small := fun r hr' => by
        obtain ⟨q, hq, rfl⟩ := List.mem_map.1 hr'
        exact hsm q (List.mem_of_mem_take hq)
      have hle := encs_len _ hsmk
      have hbase := hst.1.lt
      have hcall : Calls Try.prog 98 #[.pointer (some ⟨gD, 0, none⟩), .agg cs.toArray] w1 (WroteD base gW gB gD gM (encs ((ps.take (k + 1)).map (·.1))) (p.1.name :: ((ps.take k).map fun p => p.1.name).reverse) w1) := by
        rw [HCS.out]
        refine dedup_any p.1 (hsm p hpm) (hpl p hpm) p.2 base gW gB gD gM _ _ _ (Lib.hid ?_) (Lib.hid (encs_mod _)) ?_ w1 (hst.old hbw) (hph.keep hpg (hb.trans (hbw.mono (by omega)))) ?_ ?_
        · rw [etk, List.map_append]
          exact encs_snoc _ _
        · simp only [List.length_map, List.length_take] at hle
          omega
        · rw [List.mem_reverse]
          intro hm
          obtain ⟨q, hq, e⟩ := List.mem_map.1 hm
          obtain ⟨j, hj, hjq⟩ := List.mem_iff_getElem.1 hq
          rw [List.length_take] at hj
          rw [List.getElem_take] at hjq
          have hne := (List.pairwise_iff_getElem.1 hnd) j k (by simp; omega) (by simpa using hlt') (by omega)
          apply hne
          simp only [List.getElem_map]
          rw [hjq, e]
          rw [List.getElem?_eq_getElem hlt'] at hp
          injection hp with hp
          rw [hp]
        · simp
          omega
      have enm : ((ps.take (k + 1)).map fun p => p.1.name).reverse = p.1.name :: ((ps.take k).map fun p => p.1.name).reverse := by rw [etk]; simp
      have HC := Lib.hid hcall
      have HE := Lib.hid enm
      clear hcall enm etk hle hsmk HCS
      refine HC.out.mono ?_
      rintro e w2 ⟨rfl, hst2, hb2⟩
      go_wp2
      go_roundw
      case rel => exact ⟨k + 1, by omega, by go_num, by rw [HE.out]; exact hst2, (hb.trans (hbw.mono (by omega))).trans hb2⟩
      case measure => simp [RowKit.intOf]; omega
    · obtain rfl : k = ps.length := by omega
      go_wp2
      go_ret
      rw [List.take_length] at hst
      exact ⟨rfl, hst, hb⟩
theorem Dst.drew {w : World} {base gW gB gD gM : Nat} {l : List UInt8} {ns : List (List UInt8)} (h : Dst w base gW gB gD gM l ns) : Dst w.drew base gW gB gD gM l ns := h.old (below_drewN (Below.refl _ _) 1)
theorem trailer_small : trailerRec.Small := by constructor <;> decide
set_option maxRecDepth 100000 in
set_option maxHeartbeats 400000 in
theorem wtrailer_any (base gW gB gD gM : Nat) (l L : List UInt8) (ns : List (List UInt8)) (hL : Hid (L = l ++ trailerRec.enc)) (h4 : Hid (l.length % 4 = 0)) (hll : l.length ≤ 1000000) (w : World)
    (hw : Dst w base gW gB gD gM l ns) (hf : trailer ∉ ns) (hn : ns.length ≤ 1000) :
    Calls Try.prog 37 #[.iface 148 (.pointer (some ⟨gD, 0, none⟩))] w (WroteD base gW gB gD gM L (trailer :: ns) w) := by
  have hmt := fun W => m148 ⟨gD, 0, none⟩ W
  have hnl := fun W => n148 ⟨gD, 0, none⟩ W
  have hbl := hw.1.lt
  go_enter Try.func37, Try.ntmps37
  go_wp2_with fail
  go_region_held3 (fun _ => True) (trivial) (first
    | (go_at_call 44
       refine (trailer_any _).mono ?_
       rintro e w1 ⟨g, rfl, hg1, hb1, hk1⟩)
    | (go_at_call 98
       refine (dedup_any trailerRec trailer_small trailer_plain g base gW gB gD gM l L ns hL h4 hll _ (hw.drew.old hb1) ⟨none, 0, hk1, Rd.none_, Nat.le_refl _⟩ hf hn).mono ?_
       rintro e w2 ⟨rfl, hst2, hb2⟩))
  all_goals
    go_wp2
    go_ret
    exact ⟨rfl, hst2, (below_drewN (Below.refl base w) 1).trans ((hb1.mono (Nat.le_of_lt hbl)).trans hb2)⟩
set_option maxRecDepth 100000 in
set_option maxHeartbeats 400000 in
theorem newdedup_any (base gW gB : Nat) (w : World) (hw : Wst w base gW gB []) :
    Calls Try.prog 72 #[.iface 145 (.pointer (some ⟨gW, 0, none⟩))] w fun e w' => ∃ gD gM, e = .returned (.iface 148 (.pointer (some ⟨gD, 0, none⟩))) ∧ Dst w' base gW gB gD gM [] [] ∧ Below w.heap.size w w' := by
  have hmm := @run_makeMap Try.prog
  have hbl := hw.lt
  go_enter Try.func72, Try.ntmps72
  go_wp2
  go_ret
  have hb1 : Below w.heap.size w (w.alloc (.map #[] 0)) := (Below.refl _ _).alloc (Nat.le_refl _) _
  have hb2 : Below w.heap.size w ((w.alloc (.map #[] 0)).alloc (.cells #[.iface 145 (.pointer (some ⟨gW, 0, none⟩)), .map (some w.heap.size)] 151)) := hb1.alloc (by simp) _
  have hD : Blk ((w.alloc (.map #[] 0)).alloc (.cells #[.iface 145 (.pointer (some ⟨gW, 0, none⟩)), .map (some w.heap.size)] 151)) (w.heap.size + 1) 151 #[.iface 145 (.pointer (some ⟨gW, 0, none⟩)), .map (some w.heap.size)] := by
    have := Blk.new (w.alloc (.map #[] 0)) 151 #[.iface 145 (.pointer (some ⟨gW, 0, none⟩)), .map (some w.heap.size)]
    simpa using this
  exact ⟨w.heap.size + 1, w.heap.size, rfl, ⟨hw.old hb2, hD, ⟨_, (World.ownsMap_made w Try.prog 9 unitElem).alloc _, fun k _ => rfl⟩, by omega, by omega⟩, hb2⟩
set_option maxRecDepth 100000 in
set_option maxHeartbeats 400000 in
theorem newwriter_any (base gB : Nat) (w : World) (hg : Blk w gB 75 #[.slice none 0 0]) (hb : base ≤ gB) :
    Calls Try.prog 71 #[.agg #[.string ⟨magic.toArray⟩], .iface 82 (.pointer (some ⟨gB, 0, none⟩))] w fun e w' => ∃ gW gD gM, e = .returned (.iface 148 (.pointer (some ⟨gD, 0, none⟩))) ∧ Dst w' base gW gB gD gM [] [] ∧ Below w.heap.size w w' := by
  have hgl := hg.lt
  go_enter Try.func71, Try.ntmps71
  go_wp2_with fail
  have hb1 : Below w.heap.size w ((w.alloc (.cells #[.string ⟨magic.toArray⟩] 90)).alloc (.cells #[.string ⟨magic.toArray⟩, .iface 82 (.pointer (some ⟨gB, 0, none⟩)), .int .i64 0] 147)) := ((Below.refl _ _).alloc (Nat.le_refl _) _).alloc (by simp) _
  have hW : Blk ((w.alloc (.cells #[.string ⟨magic.toArray⟩] 90)).alloc (.cells #[.string ⟨magic.toArray⟩, .iface 82 (.pointer (some ⟨gB, 0, none⟩)), .int .i64 0] 147)) (w.heap.size + 1) 147 #[.string ⟨magic.toArray⟩, .iface 82 (.pointer (some ⟨gB, 0, none⟩)), .int .i64 0] := by
    have := Blk.new (w.alloc (.cells #[.string ⟨magic.toArray⟩] 90)) 147 #[.string ⟨magic.toArray⟩, .iface 82 (.pointer (some ⟨gB, 0, none⟩)), .int .i64 0]
    simpa using this
  refine (newdedup_any base (w.heap.size + 1) gB _ ⟨hW, by omega, none, 0, hg.old hb1, Own.nil_ _ _ _ _, hb⟩).mono ?_
  rintro e w1 ⟨gD, gM, rfl, hst, hb2⟩
  go_wp2
  go_ret
  exact ⟨w.heap.size + 1, gD, gM, rfl, hst, hb1.trans (hb2.mono (by simp; omega))⟩
end Go.Proofs.Ytcecfjblgakfeaa
