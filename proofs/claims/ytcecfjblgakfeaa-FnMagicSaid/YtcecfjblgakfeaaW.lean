/- Words for memory that the walks of this claim share: a slice that reads as a list, a row of the call's own, a block known whole, and which blocks a call may write. -/
import Derived.Test.YtcecfjblgakfeaaRows
import Derived.WalkKit
import Derived.WalkSpells
import Derived.WalkLawsBesides
import Derived.Deep.AppendLies
import Derived.Deep.Draws
import Derived.Deep.DeepCutAuto
import Derived.Laws.CopyOwn
import Derived.Laws.IdiomStrings
namespace Go.Proofs.Ytcecfjblgakfeaa
open Go.RowKit

/-- Bytes as cells. -/
def bv (l : List UInt8) : List Value := l.map fun b => .int .u8 (b.toNat : Int)
theorem bv_len (l : List UInt8) : (bv l).length = l.length := by simp [bv]
theorem bv_app (l m : List UInt8) : bv (l ++ m) = bv l ++ bv m := by simp [bv]
theorem bv_at (l : List UInt8) (j : Nat) (h : j < l.length) : (bv l)[j]? = some (.int .u8 ((l[j]'h).toNat : Int)) := by simp [bv, h]
theorem bv_one (l : List UInt8) : ∀ u ∈ bv l, u.oneCell' = true := by
  intro u hu
  simp only [bv, List.mem_map] at hu
  obtain ⟨b, _, rfl⟩ := hu
  rfl
theorem bv_inj {l m : List UInt8} (h : bv l = bv m) : l = m := by
  induction l generalizing m with
  | nil => cases m with
    | nil => rfl
    | cons _ _ => simp [bv] at h
  | cons a l ih => cases m with
    | nil => simp [bv] at h
    | cons b m =>
      simp only [bv, List.map_cons, List.cons.injEq, Value.int.injEq, true_and] at h
      obtain ⟨h1, h2⟩ := h
      have : a = b := UInt8.toNat.inj (by omega)
      rw [this, ih h2]
theorem bv_take (l : List UInt8) (n : Nat) : (bv l).take n = bv (l.take n) := by simp [bv, List.map_take]
theorem bv_drop (l : List UInt8) (n : Nat) : (bv l).drop n = bv (l.drop n) := by simp [bv, List.map_drop]

/-! ### blocks -/
/-- Block g is just the cells cs of element type t, none of them frozen. -/
def Blk (w : World) (g : Nat) (t : TypeId) (cs : Array Value) : Prop := w.heap[g]? = some (.cells cs t (0, 0))
section
variable {w w' : World} {g : Nat} {t : TypeId} {cs : Array Value}
theorem lt_of_heap {o : Obj} (h : w.heap[g]? = some o) : g < w.heap.size := by
  rcases Nat.lt_or_ge g w.heap.size with hlt | hge
  · exact hlt
  · rw [Array.getElem?_eq_none hge] at h; cases h
theorem Blk.lt (h : Blk w g t cs) : g < w.heap.size := lt_of_heap h
theorem Blk.cell (h : Blk w g t cs) (i : Nat) : w.cell? ⟨g, i, none⟩ = cs[i]? := cell_of_row w g i cs t (0, 0) h
theorem Blk.frozen (h : Blk w g t cs) (i : Nat) : w.frozen? ⟨g, i, none⟩ = false := frozen_of_row w g i cs t h
theorem Blk.new (w : World) (t : TypeId) (cs : Array Value) : Blk (w.alloc (.cells cs t)) w.heap.size t cs := heap_alloc_new w _
theorem Blk.drew (h : Blk w g t cs) : Blk w.drew g t cs := h
theorem Blk.drewN (h : Blk w g t cs) (n : Nat) : Blk (w.drewN n) g t cs := h
theorem Blk.alloc (h : Blk w g t cs) (o : Obj) : Blk (w.alloc o) g t cs := (Below.heap_alloc w o g h.lt).trans h
theorem Blk.set_ (h : Blk w g t cs) (i : Nat) (u : Value) : Blk (w.setCell ⟨g, i, none⟩ u) g t (cs.setIfInBounds i u) := by
  unfold Blk at h ⊢
  simp [World.setCell, Array.getElem?_modify, h]
theorem Blk.far (h : Blk w g t cs) {p : Addr} (hp : g ≠ p.block) (u : Value) : Blk (w.setCell p u) g t cs := (Below.heap_setCell w p u g hp).trans h
theorem Blk.below {B : Nat} (h : Blk w g t cs) (hb : Below B w w') (hg : g < B) : Blk w' g t cs := (hb.block g hg).trans h
theorem Blk.old (h : Blk w g t cs) (hb : Below w.heap.size w w') : Blk w' g t cs := h.below hb h.lt
theorem Blk.ne_ {g' : Nat} {t' : TypeId} {cs' : Array Value} (h : Blk w g t cs) (h' : Blk w g' t' cs') (hne : t ≠ t') : g ≠ g' := by
  rintro rfl
  unfold Blk at h h'
  rw [h] at h'
  injection h' with h'
  injection h' with _ ht
  exact hne ht
end

/-! ### a slice that reads as a list -/
/-- The slice value '.slice A n _' holds the cells xs, and lies below block B. -/
def Rd (w : World) (B size : Nat) (A : Option Addr) (n : Nat) (xs : List Value) : Prop :=
  xs.length = n * size ∧ (0 < n → ∃ b off, A = some ⟨b, off, none⟩ ∧ b < B ∧ ∀ j u, xs[j]? = some u → w.cell? ⟨b, off + j, none⟩ = some u)
section
variable {w w' : World} {B B' size n : Nat} {A : Option Addr} {xs : List Value}
theorem Rd.none_ : Rd w B size A 0 [] := ⟨by simp, fun h => absurd h (by omega)⟩
theorem Rd.keep (h : Rd w B size A n xs) (hk : ∀ p : Addr, p.block < B → w'.cell? p = w.cell? p) : Rd w' B size A n xs :=
  ⟨h.1, fun hn => by
    obtain ⟨b, off, e, hb, hc⟩ := h.2 hn
    exact ⟨b, off, e, hb, fun j u hu => (hk _ hb).trans (hc j u hu)⟩⟩
theorem Rd.more (h : Rd w B size A n xs) (hB : B ≤ B') : Rd w B' size A n xs :=
  ⟨h.1, fun hn => by
    obtain ⟨b, off, e, hb, hc⟩ := h.2 hn
    exact ⟨b, off, e, by omega, hc⟩⟩
theorem Rd.below (h : Rd w B size A n xs) (hb : Below B w w') : Rd w' B size A n xs := h.keep fun _ hp => hb.cell hp
theorem Rd.drew (h : Rd w B size A n xs) : Rd w.drew B size A n xs := h
theorem Rd.drewN (h : Rd w B size A n xs) (k : Nat) : Rd (w.drewN k) B size A n xs := h
theorem Rd.alloc (h : Rd w B size A n xs) (hB : B ≤ w.heap.size) (o : Obj) : Rd (w.alloc o) B size A n xs := h.keep fun p hp => World.cell?_alloc_lt w o p (by omega)
/-- Where there is an element: its place, and its cells. -/
theorem Rd.at_ {k : Nat} (h : Rd w B size A n xs) (hk : k < n) : ∃ b off, A = some ⟨b, off, none⟩ ∧ b < B ∧ ∀ j, j < size → w.cell? ⟨b, off + k * size + j, none⟩ = xs[k * size + j]? := by
  obtain ⟨b, off, e, hb, hc⟩ := h.2 (by omega)
  refine ⟨b, off, e, hb, fun j hj => ?_⟩
  have hl : k * size + j < xs.length := by
    rw [h.1]
    calc k * size + j < k * size + size := by omega
      _ = (k + 1) * size := by rw [Nat.add_mul, Nat.one_mul]
      _ ≤ n * size := Nat.mul_le_mul_right _ hk
  rw [List.getElem?_eq_getElem hl, Nat.add_assoc]
  exact hc _ _ (List.getElem?_eq_getElem hl)
theorem Rd.at1 {k : Nat} (h : Rd w B 1 A n xs) (hk : k < n) : ∃ b off, A = some ⟨b, off, none⟩ ∧ b < B ∧ w.cell? ⟨b, off + k, none⟩ = xs[k]? := by
  obtain ⟨b, off, e, hb, hc⟩ := h.at_ hk
  refine ⟨b, off, e, hb, ?_⟩
  have := hc 0 (by omega)
  simpa using this
end
theorem add_lit (b off n : Nat) : (⟨b, off, none⟩ : Addr).add n = ⟨b, off + n, none⟩ := Addr.add_lit b off n
/-- A cut s[k:h] of a slice. -/
theorem Rd.cut {w : World} {B size n k h cap : Nat} {A : Option Addr} {xs : List Value} (hr : Rd w B size A n xs) (hk : k ≤ h) (hn : h ≤ n) (hc : n ≤ cap) :
    Rd w B size (if cap = k then A else A.map (·.add (k * size))) (h - k) ((xs.drop (k * size)).take ((h - k) * size)) := by
  have hl : h * size ≤ n * size := Nat.mul_le_mul_right _ hn
  have hkl : (h - k) * size + k * size = h * size := by rw [← Nat.add_mul]; congr 1; omega
  refine ⟨by rw [List.length_take, List.length_drop, hr.1]; omega, fun hp => ?_⟩
  obtain ⟨b, off, rfl, hb, hcell⟩ := hr.2 (by omega)
  rw [if_neg (by omega)]
  refine ⟨b, off + k * size, by simp [add_lit], hb, fun j u hu => ?_⟩
  rw [List.getElem?_take] at hu
  split at hu
  · rw [List.getElem?_drop] at hu
    have := hcell _ u hu
    rwa [← Nat.add_assoc] at this
  · cases hu

/-! ### a row of the call's own -/
/-- The slice v of n elements of type e owns the cells xs: nil, or at the head of a block from base on, none of whose cells is frozen. -/
def Own (w : World) (base e size : Nat) (v : Value) (n : Nat) (xs : List Value) : Prop :=
  xs.length = n * size ∧ ((v = .slice none 0 0 ∧ n = 0) ∨
    ∃ g cap cur fr, v = .slice (some ⟨g, 0, none⟩) n cap ∧ base ≤ g ∧ n ≤ cap ∧ cap ≤ maxLen ∧ w.heap[g]? = some (.cells cur e fr) ∧
      (∀ j, j < cur.size → ¬(fr.1 ≤ j ∧ j < fr.2)) ∧ cur.size = cap * size ∧ cur.toList.take (n * size) = xs)
section
variable {w w' : World} {base e size n : Nat} {v : Value} {xs : List Value}
theorem Own.nil_ (w : World) (base e size : Nat) : Own w base e size (.slice none 0 0) 0 [] := ⟨by simp, .inl ⟨rfl, rfl⟩⟩
theorem Own.of_owns (h : w.ownsRow base e size v n xs) : Own w base e size v n xs := by
  refine ⟨h.1, ?_⟩
  rcases h.2 with h | ⟨g, cap, cur, rfl, hb, hg, h1, h2, h3, h4⟩
  · exact .inl h
  · exact .inr ⟨g, cap, cur, (0, 0), rfl, hb, h1, h2, hg, fun j _ => by simp, h3, h4⟩
theorem Own.shape (h : Own w base e size v n xs) : ∃ A cap, v = .slice A n cap ∧ n ≤ cap ∧ cap ≤ maxLen ∧ Rd w w.heap.size size A n xs := by
  rcases h.2 with ⟨rfl, rfl⟩ | ⟨g, cap, cur, fr, rfl, hb, h1, h2, hg, h3, h4, h5⟩
  · have : xs = [] := List.eq_nil_of_length_eq_zero (by simpa using h.1)
    subst this
    exact ⟨none, 0, rfl, Nat.le_refl _, by simp [maxLen], Rd.none_⟩
  · refine ⟨_, cap, rfl, h1, h2, h.1, fun hn => ⟨g, 0, rfl, lt_of_heap hg, fun j u hj => ?_⟩⟩
    rw [Nat.zero_add, cell_of_row w g j cur e fr hg, ← hj, ← h5, ← Array.getElem?_toList, List.getElem?_take]
    have hj' := (List.getElem?_eq_some_iff.1 hj).1
    rw [h.1] at hj'
    rw [if_pos hj']
theorem Own.keep (h : Own w base e size v n xs) (hk : ∀ g, v.ownBlock = some g → w'.heap[g]? = w.heap[g]?) : Own w' base e size v n xs := by
  refine ⟨h.1, ?_⟩
  rcases h.2 with h | ⟨g, cap, cur, fr, rfl, hb, h1, h2, hg, h3, h4, h5⟩
  · exact .inl h
  · exact .inr ⟨g, cap, cur, fr, rfl, hb, h1, h2, (hk g rfl).trans hg, h3, h4, h5⟩
theorem Own.lt (h : Own w base e size v n xs) : ∀ g, v.ownBlock = some g → base ≤ g ∧ g < w.heap.size := by
  intro g hg
  rcases h.2 with ⟨rfl, _⟩ | ⟨g', cap, cur, fr, rfl, hb, h1, h2, hg', h3, h4, h5⟩
  · simp [Value.ownBlock] at hg
  · simp [Value.ownBlock] at hg
    subst hg
    exact ⟨hb, lt_of_heap hg'⟩
theorem Own.type (h : Own w base e size v n xs) : ∀ g, v.ownBlock = some g → ∃ cur fr, w.heap[g]? = some (.cells cur e fr) := by
  intro g hg
  rcases h.2 with ⟨rfl, _⟩ | ⟨g', cap, cur, fr, rfl, hb, h1, h2, hg', h3, h4, h5⟩
  · simp [Value.ownBlock] at hg
  · simp [Value.ownBlock] at hg
    subst hg
    exact ⟨cur, fr, hg'⟩
theorem Own.more {base' : Nat} (h : Own w base e size v n xs) (hb : base' ≤ base) : Own w base' e size v n xs := by
  refine ⟨h.1, ?_⟩
  rcases h.2 with h | ⟨g, cap, cur, fr, rfl, hb', r⟩
  · exact .inl h
  · exact .inr ⟨g, cap, cur, fr, rfl, by omega, r⟩
theorem Own.old (h : Own w base e size v n xs) (hb : Below w.heap.size w w') : Own w' base e size v n xs :=
  h.keep fun g hg => hb.block g (h.lt g hg).2
theorem Own.drew (h : Own w base e size v n xs) : Own w.drew base e size v n xs := h
theorem Own.drewN (h : Own w base e size v n xs) (k : Nat) : Own (w.drewN k) base e size v n xs := h
theorem Own.alloc (h : Own w base e size v n xs) (o : Obj) : Own (w.alloc o) base e size v n xs :=
  h.keep fun g hg => Below.heap_alloc w o g (h.lt g hg).2
theorem Own.set_ (h : Own w base e size v n xs) {p : Addr} (hp : v.ownBlock ≠ some p.block) (u : Value) : Own (w.setCell p u) base e size v n xs :=
  h.keep fun g hg => Below.heap_setCell w p u g (fun e => hp (by rw [hg, e]))
theorem Own.blk_ne {g : Nat} {t : TypeId} {cs : Array Value} (h : Own w base e size v n xs) (hg : Blk w g t cs) (hne : e ≠ t) : v.ownBlock ≠ some g := by
  intro he
  obtain ⟨cur, fr, hc⟩ := h.type g he
  unfold Blk at hg
  rw [hg] at hc
  injection hc with hc
  injection hc with _ ht
  exact hne ht.symm
end

/-! ### append -/
theorem Own.setCells {g : Nat} {e : TypeId} {fr : Nat × Nat} : ∀ (news : List Value) (o : Nat) (w : World) (cur : Array Value),
    w.heap[g]? = some (.cells cur e fr) → o + news.length ≤ cur.size →
    (w.setCells g o news).heap[g]? = some (.cells (cur.toList.take o ++ news ++ cur.toList.drop (o + news.length)).toArray e fr) ∧
      (∀ k, k ≠ g → (w.setCells g o news).heap[k]? = w.heap[k]?) ∧ (w.setCells g o news).heap.size = w.heap.size ∧ (w.setCells g o news).os = w.os ∧ (w.setCells g o news).tape = w.tape ∧ (w.setCells g o news).output = w.output
  | [], o, w, cur, h, _ => by
    simp [World.setCells, h, List.take_append_drop]
  | x :: news, o, w, cur, h, hl => by
    simp only [List.length_cons] at hl
    have hs : (w.setCell ⟨g, o, none⟩ x).heap[g]? = some (.cells (cur.setIfInBounds o x) e fr) := by simp [World.setCell, Array.getElem?_modify, h]
    obtain ⟨h1, h2, h3, h4, h5, h6⟩ := Own.setCells news (o + 1) (w.setCell ⟨g, o, none⟩ x) (cur.setIfInBounds o x) hs (by simp; omega)
    refine ⟨?_, fun k hk => (h2 k hk).trans (Below.heap_setCell w _ x k hk), h3.trans (by simp), h4, h5, h6⟩
    simp only [World.setCells]
    rw [h1]
    congr 2
    have ho : o < cur.toList.length := by simp; omega
    have e1 : (cur.setIfInBounds o x).toList = cur.toList.set o x := by simp
    rw [e1]
    apply congrArg List.toArray
    rw [List.take_succ_eq_append_getElem (by simpa using ho), List.take_set_of_le (Nat.le_refl o), List.getElem_set_self, List.drop_set_of_lt (by omega)]
    simp [Nat.add_assoc, Nat.add_comm 1]

section
variable {P : Program} (w : World)
theorem run_app (base : Nat) (t ty e : TypeId) (i : TypeInfo) (z : Value) (size bytes : Nat) (ht : P.underlying t = some (.slice e)) (hi : P.info? e = some i) (hz : i.zero = some z)
    (hsize : i.size = size) (hby : i.bytes = bytes) (hzs : z.cells.size = size) (hsz : 0 < size)
    (v : Value) (n : Nat) (xs : List Value) (hown : Own w base e size v n xs)
    (B : Nat) (A : Option Addr) (m c : Nat) (news : List Value) (hr : Rd w B size A m news) (h1 : ∀ u ∈ news, u.oneCell' = true)
    (h63 : n + m ≤ maxLen) (hbytes : (n + m) * bytes ≤ 140737488355328) (hbase : base ≤ w.heap.size) :
    ∃ v' w', (Builtin.append_ #[t, t] ty #[v, .slice A m c]).run P w = .ok v' w' ∧ Own w' base e size v' (n + m) (xs ++ news) ∧ w.grownBy w' v.ownBlock ∧
      (∀ g, v'.ownBlock = some g → v.ownBlock = some g ∨ w.heap.size ≤ g) := by
  rcases Nat.eq_zero_or_pos m with h0 | hm
  · -- nothing to append
    subst h0
    obtain rfl : news = [] := List.eq_nil_of_length_eq_zero (by simpa using hr.1)
    have hrun : (Builtin.append_ #[t, t] ty #[v, .slice A 0 c]).run P w = .ok v w := by
      have hfc : (Builtin.firstCells size 0 (.slice A 0 c)).run P w = .ok #[] w := by
        cases A with
        | none => exact run_firstCells_none w size 0 0 c
        | some a => simpa using run_firstCells_some (P := P) w size 0 a 0 c [] (by simp) (fun j v h => by simp at h)
      rcases hown.2 with ⟨rfl, rfl⟩ | ⟨g, cap, cur, fr, rfl, hb, hnc, h2, hg, h3, h4, h5⟩
      · simp [Builtin.append_, run_underlying ht, sizeOf, typeInfo, hi, Builtin.lenOf, hsize, hfc]
      · simp [Builtin.append_, run_underlying ht, sizeOf, typeInfo, hi, Builtin.lenOf, hsize, hfc, hnc, storeCells]
    exact ⟨v, w, hrun, by simpa using hown, ⟨rfl, rfl, rfl, Nat.le_refl _, fun _ _ _ => rfl⟩, fun g h => .inl h⟩
  · obtain ⟨b, off, rfl, _, hcell⟩ := hr.2 hm
    have hnews : ∀ j u, news[j]? = some u → w.cell? ((⟨b, off, none⟩ : Addr).add j) = some u := fun j u hj => by rw [add_lit]; exact hcell j u hj
    rcases hown.2 with ⟨rfl, rfl⟩ | ⟨g, cap, cur, fr, rfl, hb, hnc, h2, hg, h3, h4, h5⟩
    · obtain rfl : xs = [] := List.eq_nil_of_length_eq_zero (by simpa using hown.1)
      obtain ⟨v', w', hrun, r1, r2, _, r4⟩ := run_append_own_at (P := P) w base t ty e i z size bytes ht hi hz hsize hby hzs hsz (.slice none 0 0) 0 [] (World.ownsRow_nil w _ e size) _ m c news hr.1 hnews h1 h63 hbytes hbase
      exact ⟨v', w', hrun, Own.of_owns r1, r2, fun g hg => by rcases r4 with r4 | r4 <;> rw [r4] at hg <;> simp [Value.ownBlock] at hg; exact .inr (by omega)⟩
    · by_cases hroom : n + m ≤ cap
      · subst hsize
        have hfit : n * i.size + news.length ≤ cur.size := by rw [hr.1, h4, ← Nat.add_mul]; exact Nat.mul_le_mul_right _ hroom
        have hrun := run_append_room_cells (P := P) w t ty e i ht hi g 0 n cap ⟨b, off, none⟩ m c news hr.1 hnews h1 hroom
          (fun j hj => by rw [cell_of_row w g _ cur e fr hg, Array.getElem?_eq_getElem (by omega)]; rfl)
          (fun j hj => by
            have := h3 (0 + n * i.size + j) (by omega)
            unfold World.frozen?
            simp only [hg]
            obtain ⟨lo, hi'⟩ := fr
            simp only [Bool.and_eq_false_iff, decide_eq_false_iff_not]
            simp only at this
            omega)
        simp only [Nat.zero_add] at hrun
        obtain ⟨r1, r2, r3, r4, r5, r6⟩ := Own.setCells news (n * i.size) w cur hg hfit
        refine ⟨_, _, hrun, ⟨by rw [List.length_append, hown.1, hr.1, Nat.add_mul], .inr ⟨g, cap, _, fr, rfl, hb, hroom, h2, r1, ?_, ?_, ?_⟩⟩, ⟨r4, r5, r6, by omega, fun k hk hne => r2 k (fun e => hne (by simp [Value.ownBlock, e]))⟩, fun g h => .inl h⟩
        · intro j hj
          refine h3 j ?_
          simp at hj
          omega
        · simp
          omega
        · simp only
          rw [h5, Nat.add_mul, ← hown.1, ← hr.1]
          rw [← List.length_append]
          exact List.take_left
      · obtain ⟨v', w', hrun, r1, r2⟩ := run_append_arg_grows (P := P) w t ty e i z size bytes ht hi hz hsize hby hzs hsz ⟨g, 0, none⟩ n cap xs hown.1
          (fun j u hj => by
            rw [add_lit, Nat.zero_add, cell_of_row w g j cur e fr hg, ← hj, ← h5, ← Array.getElem?_toList, List.getElem?_take]
            have hj' := (List.getElem?_eq_some_iff.1 hj).1
            rw [hown.1] at hj'
            rw [if_pos hj']) ⟨b, off, none⟩ m c news hr.1 hnews (by omega) h63 hbytes
        exact ⟨v', w', hrun, (Own.of_owns r1).more hbase, ⟨r2.os, r2.tape, r2.output, r2.size, fun k hk _ => r2.block k hk (by simp)⟩, fun g' hg' => .inr ((Own.of_owns r1).lt g' hg').1⟩

theorem wp_app {o : Oper} {a : Act} {K : Act → World → Prop} {Q : Exit → Act → World → Prop} (s x : Operand) (t : TypeId)
    (ho : o.op = .call { callee := .builtin .append, args := #[s, x], argTypes := #[t, t] })
    (base : Nat) (e : TypeId) (i : TypeInfo) (z : Value) (size bytes : Nat) (ht : P.underlying t = some (.slice e)) (hi : P.info? e = some i) (hz : i.zero = some z)
    (hsize : i.size = size) (hby : i.bytes = bytes) (hzs : z.cells.size = size) (hsz : 0 < size)
    (v : Value) (n : Nat) (xs : List Value) (hs : a.eval s = v) (hown : Own w base e size v n xs)
    (B : Nat) (A : Option Addr) (m c : Nat) (news : List Value) (hx : a.eval x = .slice A m c) (hr : Rd w B size A m news) (h1 : ∀ u ∈ news, u.oneCell' = true)
    (h63 : n + m ≤ maxLen) (hbytes : (n + m) * bytes ≤ 140737488355328) (hbase : base ≤ w.heap.size)
    (h : ∀ v' w', Own w' base e size v' (n + m) (xs ++ news) → w.grownBy w' v.ownBlock → (∀ g, v'.ownBlock = some g → v.ownBlock = some g ∨ w.heap.size ≤ g) → K (a.put o.dst v') w') : o.wp P a w K Q := by
  obtain ⟨v', w', hrun, h2, h3, h4⟩ := run_app (P := P) w base t o.type e i z size bytes ht hi hz hsize hby hzs hsz v n xs hown B A m c news hr h1 h63 hbytes hbase
  unfold Oper.wp execOp
  simp only [ho, resolve, invoke, builtin, Sem.run_bind, Sem.run_pure, Result.andThen_ok, List.map_toArray, List.map_cons, List.map_nil, hs, hx, hrun]
  exact h v' w' h2 h3 h4

/-- append onto a row of the call's own, the source nil, empty or not: in a plain region. -/
theorem wpList_app {ops : Array Oper} {rest : List Oper} {o : Oper} {a : Act} {Q : Exit → Act → World → Prop} (hgd : o.guard = none) (s x : Operand) (t : TypeId)
    (ho : o.op = .call { callee := .builtin .append, args := #[s, x], argTypes := #[t, t] })
    (base : Nat) (e : TypeId) (i : TypeInfo) (z : Value) (size bytes : Nat) (ht : P.underlying t = some (.slice e)) (hi : P.info? e = some i) (hz : i.zero = some z)
    (hsize : i.size = size) (hby : i.bytes = bytes) (hzs : z.cells.size = size) (hsz : 0 < size)
    (v : Value) (n : Nat) (xs : List Value) (hs : a.eval s = v) (hown : Own w base e size v n xs)
    (B : Nat) (A : Option Addr) (m c : Nat) (news : List Value) (hx : a.eval x = .slice A m c) (hr : Rd w B size A m news) (h1 : ∀ u ∈ news, u.oneCell' = true)
    (h63 : n + m ≤ maxLen) (hbytes : (n + m) * bytes ≤ 140737488355328) (hbase : base ≤ w.heap.size)
    (h : ∀ v' w', Own w' base e size v' (n + m) (xs ++ news) → w.grownBy w' v.ownBlock → (∀ g, v'.ownBlock = some g → v.ownBlock = some g ∨ w.heap.size ≤ g) → wpList P ops Q rest (a.put o.dst v') w') : wpList P ops Q (o :: rest) a w :=
  wpList_plain hgd fun _ hK => wp_app w s x t ho base e i z size bytes ht hi hz hsize hby hzs hsz v n xs hs hown B A m c news hx hr h1 h63 hbytes hbase fun v' w' h2 h3 h4 => hK _ _ (h v' w' h2 h3 h4)
end

/-! ### which blocks a call may write -/
/-- Only blocks from 'base' on whose element type is in S have turned; all else that was there is as it was. -/
def Fr (base : Nat) (S : List TypeId) (w w' : World) : Prop :=
  w'.os = w.os ∧ w'.tape = w.tape ∧ w'.output = w.output ∧ w.heap.size ≤ w'.heap.size ∧
    ∀ k o, w.heap[k]? = some o → (k < base ∨ ∀ c t fr, o = .cells c t fr → t ∉ S) → w'.heap[k]? = some o
section
variable {base : Nat} {S : List TypeId} {w w' w'' : World}
theorem Fr.refl (base : Nat) (S : List TypeId) (w : World) : Fr base S w w := ⟨rfl, rfl, rfl, Nat.le_refl _, fun _ _ h _ => h⟩
theorem Fr.trans (h : Fr base S w w') (k : Fr base S w' w'') : Fr base S w w'' :=
  ⟨k.1.trans h.1, k.2.1.trans h.2.1, k.2.2.1.trans h.2.2.1, Nat.le_trans h.2.2.2.1 k.2.2.2.1, fun i o hi hc => k.2.2.2.2 i o (h.2.2.2.2 i o hi hc) hc⟩
theorem Fr.size (h : Fr base S w w') : w.heap.size ≤ w'.heap.size := h.2.2.2.1
theorem Fr.below (h : Fr base S w w') (hb : base ≤ w.heap.size) : Below base w w' :=
  ⟨h.1, h.2.1, h.2.2.1, h.2.2.2.1, fun k hk => by
    have hlt : k < w.heap.size := by omega
    rw [Array.getElem?_eq_getElem hlt]
    exact h.2.2.2.2 k _ (Array.getElem?_eq_getElem hlt) (.inl hk)⟩
theorem Fr.of_below (h : Below w.heap.size w w') : Fr base S w w' :=
  ⟨h.os, h.tape, h.output, h.size, fun k _ ho _ => (h.block k (lt_of_heap ho)).trans ho⟩
theorem Fr.more {base' : Nat} {S' : List TypeId} (h : Fr base S w w') (hb : base' ≤ base) (hS : ∀ t ∈ S, t ∈ S') : Fr base' S' w w' :=
  ⟨h.1, h.2.1, h.2.2.1, h.2.2.2.1, fun k o ho hc => h.2.2.2.2 k o ho (hc.elim (fun hk => .inl (by omega)) (fun hk => .inr fun c t fr he ht => hk c t fr he (hS t ht)))⟩
theorem Fr.blk {g : Nat} {t : TypeId} {cs : Array Value} (h : Fr base S w w') (hg : Blk w g t cs) (hc : g < base ∨ t ∉ S) : Blk w' g t cs :=
  h.2.2.2.2 g _ hg (hc.elim .inl (fun ht => .inr fun c t' fr he => by injection he with _ h2; rw [← h2]; exact ht))
theorem Fr.drew (h : Fr base S w w') : Fr base S w w'.drew := ⟨h.1, h.2.1, h.2.2.1, h.2.2.2.1, h.2.2.2.2⟩
theorem Fr.drewN (h : Fr base S w w') (n : Nat) : Fr base S w (w'.drewN n) := ⟨h.1, h.2.1, h.2.2.1, h.2.2.2.1, h.2.2.2.2⟩
theorem Fr.alloc (h : Fr base S w w') (o : Obj) : Fr base S w (w'.alloc o) := h.trans (Fr.of_below ((Below.refl _ _).alloc (Nat.le_refl _) o))
theorem Fr.set_ (h : Fr base S w w') {p : Addr} {t : TypeId} {cs : Array Value} (hg : Blk w' p.block t cs) (hb : base ≤ p.block) (ht : t ∈ S) (u : Value) : Fr base S w (w'.setCell p u) :=
  h.trans ⟨rfl, rfl, rfl, by simp, fun k _ ho hc => by
    rw [Below.heap_setCell w' p u k ?_]
    · exact ho
    · rintro rfl
      unfold Blk at hg
      rw [hg] at ho
      injection ho with ho
      subst ho
      rcases hc with hc | hc
      · omega
      · exact hc _ _ _ rfl ht⟩
theorem Fr.grown (h : Fr base S w w') {row : Option Nat} (hg : w'.grownBy w'' row) (hr : ∀ g, row = some g → base ≤ g ∧ ∃ c t fr, w'.heap[g]? = some (.cells c t fr) ∧ t ∈ S) : Fr base S w w'' :=
  h.trans ⟨hg.os, hg.tape, hg.output, hg.size, fun k o ho hc => (hg.block k (lt_of_heap ho) (fun e => by
    obtain ⟨hb, c, t, fr, hk, ht⟩ := hr k e.symm
    rw [hk] at ho
    injection ho with ho
    subst ho
    rcases hc with hc | hc
    · omega
    · exact hc _ _ _ rfl ht)).trans ho⟩
/-- Where a block of the call's own, made behind w, is written, nothing of w turns. -/
theorem Below.new (h : Fr base S w w') (hn : base = w.heap.size) : Below w.heap.size w w' := hn ▸ h.below (by omega)
end
theorem own_row {w : World} {base e size n : Nat} {v : Value} {xs : List Value} {S : List TypeId} (h : Own w base e size v n xs) (ht : e ∈ S) :
    ∀ g, v.ownBlock = some g → base ≤ g ∧ ∃ c t fr, w.heap[g]? = some (.cells c t fr) ∧ t ∈ S := fun g hg => by
  obtain ⟨cur, fr, hc⟩ := h.type g hg
  exact ⟨(h.lt g hg).1, cur, e, fr, hc, ht⟩
theorem below_drewN {B : Nat} {a w : World} (h : Below B a w) (n : Nat) : Below B a (w.drewN n) := ⟨h.os, h.tape, h.output, h.size, h.block⟩
theorem bcell {W w1 : World} (hb : Below W.heap.size W w1) : (∀ b o, b < W.heap.size → w1.cell? ⟨b, o, none⟩ = W.cell? ⟨b, o, none⟩) ∧ (∀ b o, b < W.heap.size → w1.frozen? ⟨b, o, none⟩ = W.frozen? ⟨b, o, none⟩) :=
  ⟨fun b o h => hb.cell (p := ⟨b, o, none⟩) h, fun b o h => hb.frozen (p := ⟨b, o, none⟩) h⟩

/-! ### bytes and strings -/
theorem run_str {P : Program} (w : World) (src dst e : TypeId) (B : Nat) (A : Option Addr) (n cap : Nat) (l : List UInt8) (hs : P.underlying src = some (.slice e)) (he : P.underlying e = some (.int .u8)) (hd : P.underlying dst = some .string)
    (hr : Rd w B 1 A n (bv l)) : (convert src dst (.slice A n cap)).run P w = .ok (.string ⟨l.toArray⟩) w := by
  have hn : l.length = n := by simpa [bv_len] using hr.1
  subst hn
  rcases Nat.eq_zero_or_pos l.length with h0 | h0
  · obtain rfl : l = [] := List.eq_nil_of_length_eq_zero h0
    cases A with
    | some a => exact run_convert_bytes_back (P := P) w src dst e a cap [] hs he hd (by simp)
    | none =>
      rw [run_convert_bytes_string w src dst e none _ cap hs he hd]
      simp [Conv.bytesToString]
      rfl
  · obtain ⟨b, off, rfl, _, hc⟩ := hr.2 h0
    refine run_convert_bytes_back (P := P) w src dst e _ cap l hs he hd fun j hj => ?_
    rw [add_lit]
    exact hc j _ (bv_at l j hj)
theorem own_bytes (w : World) (e : TypeId) (s : ByteArray) (cap : Nat) (hc : s.size ≤ cap) (hm : cap ≤ maxLen) :
    Own (w.drew.alloc (.cells (bytesRow s cap) e ((bytesRow s cap).size, (bytesRow s cap).size + 1))) w.heap.size e 1 (.slice (some ⟨w.heap.size, 0, none⟩) s.size cap) s.size (bv s.data.toList) := by
  have hsz : s.data.size = s.size := rfl
  refine ⟨by simp [bv_len, hsz], .inr ⟨w.heap.size, cap, _, _, rfl, Nat.le_refl _, hc, hm, heap_alloc_new w.drew _, fun j hj => by omega, ?_, ?_⟩⟩
  · simp [bytesRow, hsz]
    omega
  · simp only [bytesRow, Array.toList_append, Array.toList_map, Nat.mul_one]
    rw [List.take_append_of_le_length (by simp [hsz]), List.take_of_length_le (by simp [hsz])]
    rfl

end Go.Proofs.Ytcecfjblgakfeaa
