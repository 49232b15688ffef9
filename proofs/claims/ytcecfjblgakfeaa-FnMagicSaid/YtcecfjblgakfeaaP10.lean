/- A record that was read is gathered. -/
import Derived.Test.YtcecfjblgakfeaaP9
import Derived.Test.YtcecfjblgakfeaaF16
namespace Go.Proofs.Ytcecfjblgakfeaa
open Go.RowKit
/-- A record that was read: its section's block, and its place. -/
structure Got where
  r : Rec
  g : Nat
  p : Nat
  l : Nat
  f : Nat
def Got.cells (x : Got) : Array Value := rRecCells x.r x.g x.p x.l x.f
theorem Got.size (x : Got) : x.cells.size = 17 := rfl
theorem Got.one (x : Got) : x.cells.all (·.oneCell') = true := rcells_one _ _ _ _ _
def fCells (xs : List Got) : List Value := xs.flatMap fun x => x.cells.toList
theorem fCells_len (xs : List Got) : (fCells xs).length = xs.length * 17 := by
  induction xs with
  | nil => rfl
  | cons p ps ih =>
    have : fCells (p :: ps) = p.cells.toList ++ fCells ps := rfl
    rw [this, List.length_append, ih, List.length_cons]
    simp only [Array.length_toList, Got.size]
    omega
theorem fCells_at : ∀ (xs : List Got) (k : Nat) (x : Got), xs[k]? = some x → ∀ j, j < 17 → (fCells xs)[k * 17 + j]? = x.cells[j]?
  | [], k, p, h, _, _ => by simp at h
  | q :: ps, 0, p, h, j, hj => by
    simp only [List.getElem?_cons_zero, Option.some.injEq] at h
    subst h
    have : fCells (q :: ps) = q.cells.toList ++ fCells ps := rfl
    rw [this, Nat.zero_mul, Nat.zero_add, List.getElem?_append_left (by simpa [Got.size] using hj)]
    simp
  | q :: ps, k + 1, p, h, j, hj => by
    have : fCells (q :: ps) = q.cells.toList ++ fCells ps := rfl
    rw [this, List.getElem?_append_right (by simp [Got.size]; omega)]
    have e : (k + 1) * 17 + j - q.cells.toList.length = k * 17 + j := by simp [Got.size]; omega
    rw [e]
    exact fCells_at ps k p (by simpa using h) j hj
/-- append of one record that was read. -/
theorem wpList_app54 {ops : Array Oper} {rest : List Oper} {o : Oper} {a : Act} {Q : Exit → Act → World → Prop} (w : World) (hgd : o.guard = none) (s x : Operand)
    (ho : o.op = .call { callee := .builtin .append, args := #[s, x], argTypes := #[48, 48] })
    (base : Nat) (v : Value) (xs : List Got) (y : Got) (n : Nat) (hs : a.eval s = v) (hown : Own w base 54 17 v n (fCells xs))
    (B : Nat) (A : Option Addr) (c : Nat) (hx : a.eval x = .slice A 1 c) (hr : Rd w B 17 A 1 (fCells [y])) (hlen : n ≤ 1000) (hbase : base ≤ w.heap.size)
    (h : ∀ v' w', Own w' base 54 17 v' (n + 1) (fCells (xs ++ [y])) → w.grownBy w' v.ownBlock → (∀ g, v'.ownBlock = some g → v.ownBlock = some g ∨ w.heap.size ≤ g) → wpList Try.prog ops Q rest (a.put o.dst v') w') :
    wpList Try.prog ops Q (o :: rest) a w := by
  obtain ⟨i0, hi, hz0, hz1, hz2⟩ := info_parts a54
  refine wpList_app w hgd s x 48 ho base 54 i0 _ 17 152 Try.underlying48 hi hz0 hz1 hz2 rfl (by decide) v n (fCells xs) hs hown B A 1 c (fCells [y]) hx hr (fun u hu => ?_) (by unfold maxLen; omega) (by omega) hbase fun v' w' h1 h2 h3 => h v' w' ?_ h2 h3
  · simp only [fCells, List.flatMap_cons, List.flatMap_nil, List.append_nil] at hu
    exact (Array.all_eq_true_iff_forall_mem.1 y.one) u (by simpa using hu)
  · have e : fCells (xs ++ [y]) = fCells xs ++ fCells [y] := by simp [fCells]
    rw [e]
    exact h1
theorem new_got (w : World) (y : Got) : Rd (w.alloc (.cells y.cells 54)) (w.heap.size + 1) 17 (some ⟨w.heap.size, 0, none⟩) 1 (fCells [y]) :=
  ⟨by rw [fCells_len]; rfl, fun _ => ⟨w.heap.size, 0, rfl, by omega, fun j u hj => by rw [Nat.zero_add, (Blk.new w 54 y.cells).cell]; simpa [fCells] using hj⟩⟩
/-- What the gathering of one record comes to. -/
def Gath (gF base n : Nat) (v : Value) (xs : List Got) (w : World) (e : Ending) (w' : World) : Prop :=
  e = .returned .nilIface ∧ ∃ v', Blk w' gF 48 #[v'] ∧ Own w' base 54 17 v' n (fCells xs) ∧ Onl (fun k => k = gF ∨ v.ownBlock = some k) w w'
set_option maxRecDepth 100000 in
set_option maxHeartbeats 1000000 in
theorem gather_any (r : Rec) (g p l f : Nat) (gF base n m : Nat) (v : Value) (xs ys : List Got) (hm : m = n + 1) (hys : Hid (ys = xs ++ [⟨r, g, p, l, f⟩])) (hn : n ≤ 1000) (w : World) (hF : Blk w gF 48 #[v]) (hown : Own w base 54 17 v n (fCells xs)) (hbase : base ≤ w.heap.size) :
    Calls Try.prog 41 #[.agg (rRecCells r g p l f), .pointer (some ⟨gF, 0, none⟩)] w (Gath gF base m v ys w) := by
  have hbc := (Blk.new w 54 (rRecCells r g p l f)).cell
  have hFl := hF.lt
  have cF : (w.alloc (.cells (rRecCells r g p l f) 54)).cell? ⟨gF, 0, none⟩ = some v := by rw [(hF.alloc _).cell]; rfl
  have hnew := new_got (w.alloc (.cells (rRecCells r g p l f) 54)) ⟨r, g, p, l, f⟩
  have hown2 := (hown.alloc (.cells (rRecCells r g p l f) 54)).alloc (.cells (rRecCells r g p l f) 54)
  have hne := hown2.blk_ne ((hF.alloc (.cells (rRecCells r g p l f) 54)).alloc (.cells (rRecCells r g p l f) 54)) (by decide)
  have HB := Lib.hid (show base ≤ ((w.alloc (.cells (rRecCells r g p l f) 54)).alloc (.cells (rRecCells r g p l f) 54)).heap.size by simp; omega)
  have HM := Lib.hid hm
  have HNW := Lib.hid hnew
  have HNE := Lib.hid hne
  clear hm hnew hne
  go_enter Try.func41, Try.ntmps41
  go_wp2_with (first
    | (at_builtin
       refine wpList_app54 _ rfl (.tmp 4) (.tmp 6) rfl base v xs ⟨r, g, p, l, f⟩ n rfl hown2 (w.heap.size + 1 + 1) (some ⟨w.heap.size + 1, 0, none⟩) 1 rfl (by have := HNW.out; rw [World.size_alloc] at this; exact this) hn HB.out ?_
       intro v' w2 hown3 hg2 hat2
       have hF2 : Blk w2 gF 48 #[v] := (hg2.block gF (by simp; omega) (fun e => HNE.out e.symm)).trans ((hF.alloc (.cells (rRecCells r g p l f) 54)).alloc (.cells (rRecCells r g p l f) 54))
       have cF2 : w2.cell? ⟨gF, 0, none⟩ = some v := by rw [hF2.cell]; rfl
       have fz2 := hF2.frozen 0
       obtain ⟨A3, c3, rfl, hc3, _, _⟩ := hown3.shape))
  go_ret
  have hown5 : Own w2 base 54 17 (.slice A3 (n + 1) c3) m (fCells ys) := by rw [HM.out, hys.out]; exact hown3
  have hown4 := hown3.blk_ne hF2 (by decide)
  refine ⟨rfl, _, hF2.set_ 0 _, hown5.set_ hown4 _, ?_⟩
  have ho := (((Onl.refl (fun k => k = gF ∨ v.ownBlock = some k) w).alloc (.cells (rRecCells r g p l f) 54)).alloc (.cells (rRecCells r g p l f) 54))
  exact (ho.tr (Q := fun k => v.ownBlock = some k) ⟨hg2.os, hg2.tape, hg2.output, hg2.size, fun k hk hn => hg2.block k hk (fun e => hn e.symm)⟩ (fun _ _ h => .inr h)).set_ (fun _ => .inl rfl) _
end Go.Proofs.Ytcecfjblgakfeaa
