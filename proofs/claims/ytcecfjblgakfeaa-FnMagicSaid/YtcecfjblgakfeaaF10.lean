/- Names made plain, and the writer that leaves out what it has seen. -/
import Derived.Test.YtcecfjblgakfeaaF9
import Derived.Test.YtcecfjblgakfeaaN
import Derived.Test.YtcecfjblgakfeaaShelf
import Derived.Maps.OwnSet
import Derived.Deep.RegionHeld3
import Derived.StillTailTactics
namespace Go.Proofs.Ytcecfjblgakfeaa
open Go.RowKit Go.Lib Go.Maps
theorem ext_cons (c : UInt8) (l : List UInt8) : (⟨(c :: l).toArray⟩ : ByteArray).extract 1 (l.length + 1) = ⟨l.toArray⟩ := by
  apply ByteArray.ext
  simp
set_option maxRecDepth 100000 in
set_option maxHeartbeats 400000 in
theorem norm_rel (l l' : List UInt8) (ha : Pa.isAbs l = false) (hc : Pa.cleanEls l = l') (hl : l.length ≤ 4294967296) (w : World) :
    Calls Try.prog 27 #[.string ⟨l.toArray⟩] w fun e w' => e = .returned (.string ⟨l'.toArray⟩) ∧ Below w.heap.size w w' := by
  go_enter Try.func27, Try.ntmps27
  have h1 := Try.path_IsAbs ⟨l.toArray⟩
  have h2 := Try.path_Clean_rules ⟨l.toArray⟩
  simp only [ha] at h1
  simp only [hc] at h2
  go_wp2_with (first
   | (go_at_call 38; refine (h1 _).mono ?_; rintro e w1 ⟨rfl, rfl⟩)
   | (go_at_call 39; refine (h2 _ (by simp [ByteArray.size]; omega)).mono ?_; rintro e w1 ⟨rfl, hb⟩))
  go_ret
  exact ⟨rfl, hb⟩
set_option maxRecDepth 100000 in
set_option maxHeartbeats 400000 in
theorem norm_abs (l l' : List UInt8) (ha : Pa.isAbs l = true) (hc : Pa.cleanEls l = 47 :: l') (hn : l' ≠ []) (hl : l.length ≤ 4294967296) (w : World) :
    Calls Try.prog 27 #[.string ⟨l.toArray⟩] w fun e w' => e = .returned (.string ⟨l'.toArray⟩) ∧ Below w.heap.size w w' := by
  go_enter Try.func27, Try.ntmps27
  have h1 := Try.path_IsAbs ⟨l.toArray⟩
  have h2 := Try.path_Clean_rules ⟨l.toArray⟩
  simp only [ha] at h1
  simp only [hc] at h2
  go_wp2_with (first
   | (go_at_call 38; refine (h1 _).mono ?_; rintro e w1 ⟨rfl, rfl⟩)
   | (go_at_call 39; refine (h2 _ (by simp [ByteArray.size]; omega)).mono ?_; rintro e w1 ⟨rfl, hb⟩))
  · rename_i h
    rw [ext_cons, ByteArray.toList_mk] at h
    exact absurd (List.isEmpty_iff.1 h) hn
  · go_ret
    exact ⟨by rw [ext_cons]; rfl, hb⟩
theorem law9 : Keyed Try.prog 9 := string_keyed Try.underlying9
theorem zero190 (w : World) : (zeroValue 190).run Try.prog w = .ok (.agg #[]) w := by kernel_rfl
theorem m77 (a : Addr) (w : World) : (method 292 148 (.pointer (some a)) "WriteRecord").run Try.prog w = .ok (98, .pointer (some a)) w := by kernel_rfl
theorem m145w (a : Addr) (w : World) : (method 292 145 (.pointer (some a)) "WriteRecord").run Try.prog w = .ok (90, .pointer (some a)) w := by kernel_rfl
/-- The names that the writer has seen lie in the map. -/
def Names (w : World) (gM : Nat) (ns : List (List UInt8)) : Prop :=
  ∃ D : DataW Unit, w.ownsMap Try.prog 9 unitElem gM ns.length D ∧ ∀ k, k ∉ ns → Maps.has D (.string k) = false
/-- The writer that leaves out what it has seen. -/
def Dst (w : World) (base gW gB gD gM : Nat) (l : List UInt8) (ns : List (List UInt8)) : Prop :=
  Wst w base gW gB l ∧ Blk w gD 151 #[.iface 145 (.pointer (some ⟨gW, 0, none⟩)), .map (some gM)] ∧ Names w gM ns ∧ base ≤ gD ∧ base ≤ gM
def WroteD (base gW gB gD gM : Nat) (L : List UInt8) (ns : List (List UInt8)) (w : World) (e : Ending) (w' : World) : Prop :=
  e = .returned .nilIface ∧ Dst w' base gW gB gD gM L ns ∧ Below base w w'
theorem look_run {w : World} {b n : Nat} {D : DataW Unit} (hown : w.ownsMap Try.prog 9 unitElem b n D) {key : Value} {kl : Lit} (hkey : keyOf Try.prog 9 key = some kl) (hno : Maps.has D kl = false) :
    (Instr.lookup 149 (.map (some b)) key true).run Try.prog w = .ok (.tuple #[.agg #[], .bool false]) w := by
  obtain ⟨v, ps, hrun, hv⟩ := hown.look_ok law9 Try.underlying149 (zero190 w) (zd := .agg []) (zp := []) unitElem_mk hkey
  obtain ⟨rfl, _⟩ := unitElem_inv hv
  rw [hrun, hno]
theorem om_cells {w : World} {b n : Nat} {D : DataW Unit} {c : Array Value} {t : TypeId} {fr : Nat × Nat} (h : w.ownsMap Try.prog 9 unitElem b n D) (hc : w.heap[b]? = some (Obj.cells c t fr)) : False := by
  obtain ⟨es, clock, h1, _⟩ := h
  rw [hc] at h1
  injection h1 with h1
  injection h1
theorem om_ne {w : World} {b n g : Nat} {D : DataW Unit} {c : Array Value} {t : TypeId} (h : w.ownsMap Try.prog 9 unitElem b n D) (hc : Blk w g t c) : g ≠ b := by
  rintro rfl
  exact om_cells h hc
theorem Own.keepBut {w w' : World} {base e size n : Nat} {v : Value} {xs : List Value} (h : Own w base e size v n xs) (hk : ∀ (k : Nat) (c : Array Value) (t : TypeId) (fr : Nat × Nat), w.heap[k]? = some (Obj.cells c t fr) → w'.heap[k]? = some (Obj.cells c t fr)) : Own w' base e size v n xs :=
  h.keep fun g hg => by
    obtain ⟨cur, fr, hc⟩ := h.type g hg
    rw [hk _ _ _ _ hc, hc]
theorem Wst.keepBut {w w' : World} {base gW gB : Nat} {l : List UInt8} (h : Wst w base gW gB l) (hk : ∀ (k : Nat) (c : Array Value) (t : TypeId) (fr : Nat × Nat), w.heap[k]? = some (Obj.cells c t fr) → w'.heap[k]? = some (Obj.cells c t fr)) : Wst w' base gW gB l := by
  obtain ⟨h1, h2, A, c, h3, h4, h5⟩ := h
  exact ⟨hk _ _ _ _ h1, h2, A, c, hk _ _ _ _ h3, h4.keepBut hk, h5⟩
theorem om_fr {w w' : World} {base b n : Nat} {S : List TypeId} {D : DataW Unit} (h : w.ownsMap Try.prog 9 unitElem b n D) (hf : Fr base S w w') : w'.ownsMap Try.prog 9 unitElem b n D := by
  obtain ⟨es, clock, h1, r⟩ := h
  exact ⟨es, clock, hf.2.2.2.2 b _ h1 (.inr fun c t fr e => by cases e), r⟩
theorem om_below {w w' : World} {B b n : Nat} {D : DataW Unit} (h : w.ownsMap Try.prog 9 unitElem b n D) (hb : Below B w w') (hB : b < B) : w'.ownsMap Try.prog 9 unitElem b n D := by
  obtain ⟨es, clock, h1, r⟩ := h
  exact ⟨es, clock, (hb.block b hB).trans h1, r⟩
theorem Held.turned {w w3 w4 : World} {base n gM g : Nat} {D : DataW Unit} {r : Rec} (h : Held w base r g) (hb : Below w.heap.size w w3) (hg : w3.drew.grownBy w4 (some gM)) (hm : w3.ownsMap Try.prog 9 unitElem gM n D) (hb4 : Below base w w4) : Held w4 base r g := by
  obtain ⟨A, c, h1, h2, h3⟩ := h
  have h1 := h1.old hb
  have h4 : Blk w4 g 73 _ := (hg.block g h1.lt (by simpa using om_ne hm h1)).trans h1
  exact ⟨A, c, h4, h2.below hb4, h3⟩
set_option maxRecDepth 100000 in
set_option maxHeartbeats 1000000 in
theorem dedup_any (r : Rec) (hs : r.Small) (hp : Plain r.name) (g base gW gB gD gM : Nat) (l L : List UInt8) (ns : List (List UInt8)) (hL : Hid (L = l ++ r.enc)) (h4 : Hid (l.length % 4 = 0)) (hll : l.length ≤ 1000000) (w : World)
    (hw : Dst w base gW gB gD gM l ns) (hh : Held w base r g) (hf : r.name ∉ ns) (hn : ns.length ≤ 1000) :
    Calls Try.prog 98 #[.pointer (some ⟨gD, 0, none⟩), .agg (cRecCells r g)] w (WroteD base gW gB gD gM L (r.name :: ns) w) := by
  obtain ⟨hwst, hD, ⟨D, hmap, hhas⟩, hbD, hbM⟩ := hw
  have hdl := hD.lt
  have hml := hmap.lt
  have hbl := hwst.lt
  have c0 : w.cell? ⟨gD, 0, none⟩ = some (.iface 145 (.pointer (some ⟨gW, 0, none⟩))) := by rw [hD.cell]; rfl
  have c1 : w.cell? ⟨gD, 1, none⟩ = some (.map (some gM)) := by rw [hD.cell]; rfl
  have hkey : keyOf Try.prog 9 (.string ⟨r.name.toArray⟩) = some (.string r.name) := by
    have := WideMaps.keyOf_string_mk Try.underlying9 (s := ⟨r.name.toArray⟩) (by have := hs.name; simp [ByteArray.size, maxLen]; omega)
    simpa using this
  have hno := hhas _ hf
  have HN := Lib.hid hhas
  clear hhas
  go_enter Try.func98, Try.ntmps98
  go_wp2_with fail
  refine (norm_rel r.name r.name hp.abs hp.clean (by have := hs.name; omega) _).mono ?_
  rintro e w1 ⟨rfl, hb1⟩
  have hba : Below w.heap.size w w1 := (((Below.refl _ _).alloc (Nat.le_refl _) _).trans (hb1.mono (by simp)))
  have hbx : Blk w1 w.heap.size 54 (cRecCells r g) := (Blk.new w 54 (cRecCells r g)).old hb1
  have hfz := hbx.frozen 13
  have hc13 : w1.cell? ⟨w.heap.size, 13, none⟩ = some (.string ⟨r.name.toArray⟩) := by rw [hbx.cell]; rfl
  have hb2 : Below w.heap.size w (w1.setCell ⟨w.heap.size, 13, none⟩ (.string ⟨r.name.toArray⟩)) := hba.setCell (Nat.le_refl _) _
  have hbx2 : Blk (w1.setCell ⟨w.heap.size, 13, none⟩ (.string ⟨r.name.toArray⟩)) w.heap.size 54 (cRecCells r g) := hbx.set_ 13 _
  go_wp2_with fail
  clear hc13 hfz hb1 hba hbx
  generalize w1.setCell ⟨w.heap.size, 13, none⟩ (.string ⟨r.name.toArray⟩) = w2 at *
  have d0 : w2.cell? ⟨gD, 0, none⟩ = some (.iface 145 (.pointer (some ⟨gW, 0, none⟩))) := by rw [(hD.old hb2).cell]; rfl
  have d1 : w2.cell? ⟨gD, 1, none⟩ = some (.map (some gM)) := by rw [(hD.old hb2).cell]; rfl
  have dn : w2.cell? ⟨w.heap.size, 13, none⟩ = some (.string ⟨r.name.toArray⟩) := by rw [hbx2.cell]; rfl
  have dm : w2.ownsMap Try.prog 9 unitElem gM ns.length D := om_below hmap hb2 hml
  clear c0 c1
  have l1 := look_run dm.drew hkey hno
  have l2 := look_run (dm.alloc (.cells #[] 190)).drew hkey hno
  go_region_held3 (fun w' => w'.cell? ⟨gD, 1, none⟩ = some (.map (some gM)) ∧ w'.cell? ⟨w.heap.size, 13, none⟩ = some (.string ⟨r.name.toArray⟩)) (go_keep)
    (fail)
  all_goals
    have hb3 : Below w.heap.size w (w2.alloc (.cells #[] 190)).drew := below_drewN (hb2.alloc hb2.size _) 1
    have hbx3 : Blk (w2.alloc (.cells #[] 190)).drew w.heap.size 54 (cRecCells r g) := (hbx2.alloc _).drew
    have em : (w2.alloc (.cells #[] 190)).drew.ownsMap Try.prog 9 unitElem gM ns.length D := (dm.alloc _).drew
    clear l1 l2 dm d0 d1 dn hb2 hbx2
    rename_i hHeld
    clear hHeld
    generalize (w2.alloc (.cells #[] 190)).drew = w3 at *
    have d0 : w3.cell? ⟨gD, 0, none⟩ = some (.iface 145 (.pointer (some ⟨gW, 0, none⟩))) := by rw [(hD.old hb3).cell]; rfl
    have d1 : w3.cell? ⟨gD, 1, none⟩ = some (.map (some gM)) := by rw [(hD.old hb3).cell]; rfl
    have dn : w3.cell? ⟨w.heap.size, 13, none⟩ = some (.string ⟨r.name.toArray⟩) := by rw [hbx3.cell]; rfl
    go_wp2_with fail
    obtain ⟨w4, hrun, em4, hg4⟩ := em.drew.update law9 Try.underlying149 (by unfold maxLen; omega) hkey (unitElem_mk (H := Unit))
    have hD3 := hD.old hb3
    have hneD : gD ≠ gM := om_ne em hD3
    have hneX : w.heap.size ≠ gM := om_ne em hbx3
    have hD4 : Blk w4 gD 151 _ := (hg4.block gD hD3.lt (by simpa using hneD)).trans hD3
    have hbx4 : Blk w4 w.heap.size 54 _ := (hg4.block w.heap.size hbx3.lt (by simpa using hneX)).trans hbx3
    have f0 : w4.cell? ⟨gD, 0, none⟩ = some (.iface 145 (.pointer (some ⟨gW, 0, none⟩))) := by rw [hD4.cell]; rfl
    have f1 : w4.cell? ⟨gD, 1, none⟩ = some (.map (some gM)) := by rw [hD4.cell]; rfl
    have fn : w4.cell? ⟨w.heap.size, 13, none⟩ = some (.string ⟨r.name.toArray⟩) := by rw [hbx4.cell]; rfl
    go_region_held3 (fun w' => w'.cell? ⟨gD, 1, none⟩ = some (.map (some gM)) ∧ w'.cell? ⟨w.heap.size, 13, none⟩ = some (.string ⟨r.name.toArray⟩)) (go_keep)
      (fail)
    rename_i hHeld
    have hst4 : Wst w4 base gW gB l := Wst.keepBut (hwst.old hb3).drew fun k c t fr hk => (hg4.block k (lt_of_heap hk) (by rintro ⟨⟩; exact om_cells em hk)).trans hk
    have hb4 : Below base w w4 := ((below_drewN hb3 1).mono (Nat.le_of_lt hbl)).grown hg4 (by have := hb3.size; simp; omega) (fun j hj => by cases hj; exact hbM)
    have hh4 : Held w4 base r g := hh.turned hb3 hg4 em hb4
    clear hHeld f1 fn hrun hg4 d0 d1 dn hbx3 hD3 hb3 em
    have hbc := hbx4.cell
    have hmt := fun W => m145w ⟨gW, 0, none⟩ W
    go_wp2_with fail
    have hcall := fun k => record_any r hs g base gW gB l L hL h4 hll (w4.drewN k) hst4 hh4
    have HC := Lib.hid hcall
    clear hcall
    go_region_held3 (fun w' => w'.cell? ⟨gD, 0, none⟩ = some (.iface 145 (.pointer (some ⟨gW, 0, none⟩))) ∧ ∀ i, w'.cell? ⟨w.heap.size, i, none⟩ = (cRecCells r g)[i]?) (first | exact ⟨f0, hbc⟩ | exact ⟨g0, gc⟩) (first
      | (go_at_call 90
         refine (HC.out _).mono ?_
         rintro e w5 ⟨rfl, hst5, hf5⟩
         have hD5 := hf5.blk (hD4.drewN _) (.inr (by decide))
         have hbx5 := hf5.blk (hbx4.drewN _) (.inr (by decide))
         have g0 : w5.cell? ⟨gD, 0, none⟩ = some (.iface 145 (.pointer (some ⟨gW, 0, none⟩))) := by rw [hD5.cell]; rfl
         have gc := hbx5.cell))
    rename_i hHeld
    clear hHeld hbc gc hbx4 hbx5 HC
    go_wp2
    go_ret
    refine ⟨rfl, ⟨hst5, hD5, ⟨_, om_fr em4 hf5, fun k hk => ?_⟩, hbD, hbM⟩, (below_drewN hb4 1).trans (hf5.below (by have := hb4.size; simp; omega))⟩
    simp only [List.mem_cons, not_or] at hk
    rw [Maps.has_put_other (by simpa using hk.1)]
    exact HN.out k hk.2
end Go.Proofs.Ytcecfjblgakfeaa
