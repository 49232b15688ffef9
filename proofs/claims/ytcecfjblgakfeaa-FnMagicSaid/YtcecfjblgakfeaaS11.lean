/- The records that come in, opened to cells. -/
import Derived.Test.YtcecfjblgakfeaaS9
import Derived.Deep.Slices
import Derived.Deep.Fields
import Derived.ChangeSame
import Derived.OpenShut
import Derived.ShutString
namespace Go.Proofs.Ytcecfjblgakfeaa
open Go.RowKit Go.ChangeShapes Go.WideShapes Go.Deep
theorem pick_list {α : Type} (P : Nat → α → Prop) : ∀ n : Nat, (∀ i, i < n → ∃ x, P i x) → ∃ l : List α, l.length = n ∧ ∀ i x, l[i]? = some x → P i x
  | 0, _ => ⟨[], rfl, fun i x h => by simp at h⟩
  | n + 1, h => by
    obtain ⟨l, hl, hp⟩ := pick_list P n fun i hi => h i (by omega)
    obtain ⟨x, hx⟩ := h n (by omega)
    refine ⟨l ++ [x], by simp [hl], fun i y hy => ?_⟩
    rcases Nat.lt_or_ge i n with hi | hi
    · rw [List.getElem?_append_left (by omega)] at hy
      exact hp i y hy
    · rw [List.getElem?_append_right (by omega)] at hy
      have : i - l.length = 0 := by
        have := (List.getElem?_eq_some_iff.1 hy).1
        simp at this
        omega
      rw [this] at hy
      simp at hy
      have : i = n := by omega
      rw [this, ← hy]
      exact hx
theorem wf_u8 {z : Int} (h : (Lit.int .u8 z).wf = true) : 0 ≤ z ∧ z < 256 := by
  simp [Lit.wf, IntKind.min, IntKind.max, IntKind.signed, IntKind.bits] at h
  omega
theorem wf_u64 {z : Int} (h : (Lit.int .u64 z).wf = true) : 0 ≤ z ∧ z < 18446744073709551616 := by
  simp [Lit.wf, IntKind.min, IntKind.max, IntKind.signed, IntKind.bits] at h
  omega
section
variable {H : Type} {enc : TypeId × Value → H} {w : World} {base : Nat} {spare : Nat → Bool} {held : Bool}
theorem open_data {fuel : Nat} {v : Value} {x : DataW H × List MemPlace} (h : DataW.trod enc Try.prog w base spare held fuel 28 [v] = some x) :
    ∃ (A : Option Addr) (c : Nat) (l : List UInt8), v = .slice A l.length c ∧ Rd w w.heap.size 1 A l.length (bv l) := by
  rcases open_ints Try.underlying28 Try.underlying5 (by kernel_rfl) h with ⟨hcs, _⟩ | ⟨a, len, cap, zs, hcs, _, hl, hm, hz, _, hcell, hwz⟩
  · simp at hcs
    exact ⟨none, 0, [], hcs, Rd.none_⟩
  · simp at hcs
    have hzl : len ≤ zs.length := by rw [hz]; split <;> omega
    have hll : ((zs.take len).map fun z => UInt8.ofNat z.toNat).length = len := by simp; omega
    refine ⟨some a, cap, (zs.take len).map fun z => UInt8.ofNat z.toNat, by rw [hll]; exact hcs, ?_⟩
    rw [hll]
    refine ⟨by rw [bv_len, hll, Nat.mul_one], fun hp => ?_⟩
    have h0 := hcell 0 (by omega)
    obtain ⟨b, off, spot⟩ := a
    have hs : spot = none := by simpa [Addr.add] using World.cell?_spot h0
    subst hs
    refine ⟨b, off, rfl, ?_, fun j u hu => ?_⟩
    · have := World.block_lt_of_cell? w _ h0
      simpa [Addr.add] using this
    · have hj : j < len := by
        have := (List.getElem?_eq_some_iff.1 hu).1
        rw [bv_len, hll] at this
        exact this
      have h1 := hcell j (by omega)
      rw [Addr.add_lit] at h1
      rw [h1, ← hu]
      have hjz : j < zs.length := by omega
      have hw := wf_u8 (hwz _ (List.getElem_mem hjz))
      simp only [bv, List.getElem?_map, List.getElem?_take, if_pos hj, List.getElem?_eq_getElem hjz, Option.map_some, List.getD, Option.getD_some]
      congr 2
      simp
      omega
end
section
variable {H : Type} {enc : TypeId × Value → H} {P : Program} {w : World} {base : Nat} {spare : Nat → Bool} {held : Bool}
theorem open_slice_fields {t e : TypeId} {fs : Array Field} {fuel : Nat} {cs : List Value} {x : DataW H × List MemPlace} (ht : P.underlying t = some (.slice e)) (he : P.underlying e = some (.struct fs))
    (hone : oneCellFields P fs = true) (hC : P.cellsOf e = fs.size) (h : DataW.trod enc P w base spare held fuel t cs = some x) :
    (cs = [.slice none 0 0] ∧ x = (.nil, [])) ∨
    ∃ (a : Addr) (len cap m : Nat) (D : Nat → DataW H) (Pl : Nat → List MemPlace), cs = [.slice (some a) len cap] ∧ base ≤ a.block ∧ len ≤ cap ∧ cap ≤ maxLen ∧ m = (if spare a.block then cap else len) ∧
      x = (.slice ((List.range len).map D) ((List.range (m - len)).map fun j => D (len + j)), MemPlace.row a (m * fs.size) ++ (List.range m).flatMap Pl) ∧
      ∀ i, i < m → ∃ (ys : List (DataW H × List MemPlace)) (n : Nat), D i = .agg (ys.map (·.1)) ∧ Pl i = ys.flatMap (·.2) ∧ ys.length = fs.size ∧
        ∀ (j : Nat) (f : Field), fs[j]? = some f → ∃ (v : Value) (y : DataW H × List MemPlace), w.cell? (a.add (i * fs.size + j)) = some v ∧ ys[j]? = some y ∧ DataW.trod enc P w base spare held n f.type [v] = some y := by
  rcases open_slice ht h with h0 | ⟨a, len, cap, m, n, D, Pl, hcs, hb, hl, hm, hmm, hx, hi⟩
  · exact .inl h0
  · refine .inr ⟨a, len, cap, m, D, Pl, hcs, hb, hl, hm, hmm, by rw [hC] at hx; exact hx, fun i him => ?_⟩
    obtain ⟨cs', hc, ht'⟩ := hi i him
    rw [hC] at hc
    obtain ⟨ys, n', hn', hy, hlen, hyl, hf⟩ := DataW.trod_struct he ht'
    obtain ⟨_, hcl, hat⟩ := World.cells?_some hc
    simp only [Prod.mk.injEq] at hy
    refine ⟨ys, n', hy.1, hy.2, hyl, fun j f hj => ?_⟩
    obtain ⟨ho, hk⟩ := hone_of hone j f hj
    have hjl : j < fs.size := (Array.getElem?_eq_some_iff.1 hj).1
    have hcell := hat j hjl
    have hv : cs'[j]? = some (cs'[j]'(by omega)) := List.getElem?_eq_getElem (by omega)
    have h1 := hf j f hj
    rw [ho, hk] at h1
    have hone' : (cs'.drop j).take 1 = [cs'[j]'(by omega)] := by
      rw [List.drop_eq_getElem_cons (by omega)]
      rfl
    rw [hone'] at h1
    have hys : ys[j]? = some (ys[j]'(by omega)) := List.getElem?_eq_getElem (by omega)
    refine ⟨_, _, ?_, hys, h1.trans hys⟩
    rw [← Go.Deep.add_add, hcell, hv]
end
theorem inCells_len (rs : List In) : (inCells rs).length = rs.length * 12 := by
  induction rs with
  | nil => rfl
  | cons x rs ih =>
    have : inCells (x :: rs) = (recCells x.r x.A x.c).toList ++ inCells rs := rfl
    rw [this, List.length_append, ih, List.length_cons]
    simp
    omega
/-- What is known of one record that came in. -/
def InAt (w : World) (a : Addr) (i : Nat) (x : In) : Prop :=
  (∀ j, j < 12 → w.cell? (a.add (i * 12 + j)) = (recCells x.r x.A x.c)[j]?) ∧ Rd w w.heap.size 1 x.A x.r.data.length (bv x.r.data) ∧ x.r.mode < 18446744073709551616
section
variable {H : Type} {enc : TypeId × Value → H} {w : World} {base : Nat} {spare : Nat → Bool} {held : Bool}
theorem open_ins {fuel : Nat} {v : Value} {x : DataW H × List MemPlace} (h : DataW.trod enc Try.prog w base spare held fuel 22 [v] = some x) :
    ∃ (A : Option Addr) (c : Nat) (rs : List In), v = .slice A rs.length c ∧ rs.length ≤ c ∧ Lies w w.heap.size A rs.length rs ∧ ∀ y ∈ rs, y.r.mode < 18446744073709551616 := by
  rcases open_slice_fields Try.underlying22 Try.underlying44 (by kernel_rfl) (by kernel_rfl) h with ⟨hcs, _⟩ | ⟨a, len, cap, m, D, Pl, hcs, _, hl, hm, hmm, _, hf⟩
  · simp at hcs
    exact ⟨none, 0, [], hcs, Nat.le_refl _, ⟨rfl, Rd.none_, fun x hx => (List.not_mem_nil hx).elim⟩, fun x hx => (List.not_mem_nil hx).elim⟩
  · simp at hcs
    have hlm : len ≤ m := by rw [hmm]; split <;> omega
    have hone : ∀ i, i < len → ∃ x : In, InAt w a i x := fun i hi => by
      obtain ⟨ys, n, _, _, _, hf⟩ := hf i (by omega)
      simp only [List.size_toArray, List.length_cons, List.length_nil] at hf
      obtain ⟨v0, y0, c0, _, t0⟩ := hf 0 _ rfl
      obtain ⟨v1, y1, c1, _, t1⟩ := hf 1 _ rfl
      obtain ⟨v2, y2, c2, _, t2⟩ := hf 2 _ rfl
      obtain ⟨v3, y3, c3, _, t3⟩ := hf 3 _ rfl
      obtain ⟨v4, y4, c4, _, t4⟩ := hf 4 _ rfl
      obtain ⟨v5, y5, c5, _, t5⟩ := hf 5 _ rfl
      obtain ⟨v6, y6, c6, _, t6⟩ := hf 6 _ rfl
      obtain ⟨v7, y7, c7, _, t7⟩ := hf 7 _ rfl
      obtain ⟨v8, y8, c8, _, t8⟩ := hf 8 _ rfl
      obtain ⟨v9, y9, c9, _, t9⟩ := hf 9 _ rfl
      obtain ⟨v10, y10, c10, _, t10⟩ := hf 10 _ rfl
      obtain ⟨v11, y11, c11, _, t11⟩ := hf 11 _ rfl
      obtain ⟨z0, e0, _, w0⟩ := DataW.trod_int Try.underlying37 t0
      obtain ⟨z1, e1, _, w1⟩ := DataW.trod_int Try.underlying37 t1
      obtain ⟨z2, e2, _, w2⟩ := DataW.trod_int Try.underlying37 t2
      obtain ⟨z3, e3, _, w3⟩ := DataW.trod_int Try.underlying37 t3
      obtain ⟨z4, e4, _, w4⟩ := DataW.trod_int Try.underlying37 t4
      obtain ⟨z5, e5, _, w5⟩ := DataW.trod_int Try.underlying37 t5
      obtain ⟨z6, e6, _, w6⟩ := DataW.trod_int Try.underlying37 t6
      obtain ⟨z7, e7, _, w7⟩ := DataW.trod_int Try.underlying37 t7
      obtain ⟨z8, e8, _, w8⟩ := DataW.trod_int Try.underlying37 t8
      obtain ⟨z9, e9, _, w9⟩ := DataW.trod_int Try.underlying37 t9
      obtain ⟨s, e10, _, _⟩ := DataW.trod_string Try.underlying9 t10
      obtain ⟨A, cc, l, e11, hl⟩ := open_data t11
      have q0 := wf_u64 w0
      have q1 := wf_u64 w1
      have q2 := wf_u64 w2
      have q3 := wf_u64 w3
      have q4 := wf_u64 w4
      have q5 := wf_u64 w5
      have q6 := wf_u64 w6
      have q7 := wf_u64 w7
      have q8 := wf_u64 w8
      have q9 := wf_u64 w9
      simp only [List.cons.injEq, and_true] at e0 e1 e2 e3 e4 e5 e6 e7 e8 e9 e10
      subst e0 e1 e2 e3 e4 e5 e6 e7 e8 e9 e10 e11
      refine ⟨⟨⟨z0.toNat, z1.toNat, z2.toNat, z3.toNat, z4.toNat, z5.toNat, z6.toNat, z7.toNat, z8.toNat, z9.toNat, s.data.toList, l⟩, A, cc⟩, ?_, hl, by simp only; omega⟩
      have es : (⟨s.data.toList.toArray⟩ : ByteArray) = s := by simp
      intro j hj
      simp only [recCells, es, Int.toNat_of_nonneg q0.1, Int.toNat_of_nonneg q1.1, Int.toNat_of_nonneg q2.1, Int.toNat_of_nonneg q3.1, Int.toNat_of_nonneg q4.1, Int.toNat_of_nonneg q5.1, Int.toNat_of_nonneg q6.1, Int.toNat_of_nonneg q7.1, Int.toNat_of_nonneg q8.1, Int.toNat_of_nonneg q9.1]
      match j, hj with
      | 0, _ => exact c0
      | 1, _ => exact c1
      | 2, _ => exact c2
      | 3, _ => exact c3
      | 4, _ => exact c4
      | 5, _ => exact c5
      | 6, _ => exact c6
      | 7, _ => exact c7
      | 8, _ => exact c8
      | 9, _ => exact c9
      | 10, _ => exact c10
      | 11, _ => exact c11
    obtain ⟨rs, hrs, hall⟩ := pick_list (InAt w a) len hone
    subst hrs
    refine ⟨some a, cap, rs, hcs, hl, ⟨rfl, ⟨?_, fun hp => ?_⟩, fun y hy => ?_⟩, fun y hy => ?_⟩
    · exact inCells_len rs
    · obtain ⟨b, off, spot⟩ := a
      have hx0 := hall 0 _ (List.getElem?_eq_getElem hp)
      have h0 := hx0.1 0 (by omega)
      have h0' : w.cell? ((⟨b, off, spot⟩ : Addr).add 0) = some (.int .u64 (rs[0].r.ino : Int)) := by
        rw [Nat.zero_mul] at h0
        rw [h0]
        rfl
      have hs : spot = none := by simpa [Addr.add] using World.cell?_spot h0'
      subst hs
      refine ⟨b, off, rfl, ?_, fun j u hu => ?_⟩
      · have := World.block_lt_of_cell? w _ h0'
        simpa [Addr.add] using this
      · have hjl := (List.getElem?_eq_some_iff.1 hu).1
        have hjl' : j < rs.length * 12 := by
          have e := inCells_len rs
          omega
        have hk : j / 12 < rs.length := by omega
        have hx := hall (j / 12) _ (List.getElem?_eq_getElem hk)
        have h1 := hx.1 (j % 12) (by omega)
        have h2 := inCells_at rs (j / 12) _ (List.getElem?_eq_getElem hk) (j % 12) (by omega)
        rw [show j / 12 * 12 + j % 12 = j by omega] at h1 h2
        rw [Addr.add_lit] at h1
        rw [h1, ← h2, hu]
    · obtain ⟨i, hi, e⟩ := List.mem_iff_getElem.1 hy
      exact e ▸ (hall i _ (List.getElem?_eq_getElem hi)).2.1
    · obtain ⟨i, hi, e⟩ := List.mem_iff_getElem.1 hy
      exact e ▸ (hall i _ (List.getElem?_eq_getElem hi)).2.2
end
end Go.Proofs.Ytcecfjblgakfeaa
