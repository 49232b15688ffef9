/- A region that draws its order: what it loads is stored anew by its last operation. -/
import Derived.OrdersHeld
import Derived.StillTail
import Derived.Deep.RegionHeld3
namespace Go.Proofs.Ytcecfjblgakfeaa
open Go
section
variable {P : Program} {ops : Array Oper} {Q : Exit → Act → World → Prop} {md : Region.Mode} {S : World → Prop} {t : Nat}
/-- Whatever order is drawn; S holds behind each operation but number t. -/
def wpAnyE (P : Program) (md : Region.Mode) (ops : Array Oper) (Q : Exit → Act → World → Prop) (S : World → Prop) (t : Nat) : Nat → Array Bool → Act → World → Prop
  | 0, listed, a, w => Region.ready md ops listed = [] ∧ Q .normal a w
  | fuel + 1, listed, a, w =>
    (Region.ready md ops listed = [] → Q .normal a w) ∧
    ∀ i ∈ Region.ready md ops listed, wpOp P ops Q i (fun a' w' => (i ≠ t → S w') ∧ wpAnyE P md ops Q S t fuel (listed.setIfInBounds i true) a' w') a w
theorem wpAnyE.any : ∀ (fuel : Nat) (listed : Array Bool) (a : Act) (w : World), wpAnyE P md ops Q S t fuel listed a w → wpAny P md ops Q fuel listed a w
  | 0, _, _, _, h => h
  | fuel + 1, _, _, _, h => ⟨h.1, fun i hi => wpOp_mono (fun a' w' h' => wpAnyE.any fuel _ a' w' h'.2) (h.2 i hi)⟩
/-- Who waits for what has not come up does not come up. -/
theorem ready_waits {listed : Array Bool} {i j : Nat} (hi : listed.getD i true = false) (hj : j ∈ Region.ready md ops listed) : Region.waitsFor md ops j i = false := by
  cases hw : Region.waitsFor md ops j i with
  | false => rfl
  | true =>
    obtain ⟨oj, hoj, e, he, hb, heq⟩ := Region.waitsFor_spec hw
    obtain ⟨_, oj', hoj', hall⟩ := mem_ready.1 hj
    have : oj = oj' := Option.some.inj (hoj.symm.trans hoj')
    subst this
    have h1 := hall e he hb
    rw [heq, getD_both hi] at h1
    cases h1
theorem wpAnyE.first {i : Nat} {oi : Oper} {v : Value} (hi : ops[i]? = some oi) (hsel : ∀ (j : Nat) (o : Oper) cs b, ops[j]? = some o → o.op ≠ .select cs b)
    (hQ : ∀ c a w, Q (.panic c) (a.put oi.dst v) w → Q (.panic c) a w) (ht : Region.waitsFor md ops t i = true) :
    ∀ (fuel : Nat) (listed : Array Bool) (a : Act) (w : World),
      (∀ j oj, ops[j]? = some oj → j ≠ i → listed.getD j true = false → Region.waitsFor md ops j i = false → oi.apart ops oj = true) →
      i ∈ Region.ready md ops listed → YieldsIf P ops S oi v a → S w →
      wpAnyE P md ops Q S t fuel (listed.setIfInBounds i true) (a.put oi.dst v) w → wpAnyE P md ops Q S t (fuel + 1) listed a w
  | fuel, listed, a, w, hfree, hr, hy, hS, H => by
    refine ⟨fun h => (by rw [h] at hr; cases hr), fun j hj => ?_⟩
    by_cases hji : j = i
    · subst hji
      exact hy.wpOp hi hS ⟨fun _ => hS, H⟩
    · have hun := (mem_ready.1 hr).1
      have hnw := ready_waits hun hj
      have hjt : j ≠ t := fun e => by rw [e, ht] at hnw; cases hnw
      have hj2 := ready_mono hj hji
      obtain ⟨hjun, oj, hoj, _⟩ := mem_ready.1 hj
      cases fuel with
      | zero => rw [H.1] at hj2; cases hj2
      | succ fuel =>
        have h2 := wpOp_putIf hoj (hfree j oj hoj hji hjun hnw) (fun cs b => hsel i oi cs b hi) (fun cs b => hsel j oj cs b hoj) hQ hy (H.2 j hj2)
        refine wpOp_mono (fun a' w' h3 => ⟨fun _ => h3.2.1 hjt, wpAnyE.first hi hsel hQ ht fuel (listed.setIfInBounds j true) a' w' (fun k ok hk hki hunk hno => ?_) (ready_mono hr (Ne.symm hji)) h3.1 (h3.2.1 hjt) ?_⟩) h2
        · refine hfree k ok hk hki ?_ hno
          by_cases hjk : j = k
          · subst hjk; exact hjun
          · rwa [getD_set_ne true hjk] at hunk
        · rw [Array.setIfInBounds_comm _ _ hji]
          exact h3.2.2
end
section
variable {P : Program} {l : List Oper} {Q : Exit → Act → World → Prop} {S : World → Prop} {t : Nat}
theorem op_of {c : Nat} {o : Oper} (ho : (l.drop c).head? = some o) : l.toArray[c]? = some o := by
  rw [List.getElem?_toArray, ← List.head?_drop]
  exact ho
/-- Number i is taken first. -/
theorem wpAnyE.take {i : Nat} {oi : Oper} {v : Value} {fuel : Nat} {listed : Array Bool} {a : Act} {w : World} (hi : (l.drop i).head? = some oi)
    (hB : (Region.noSelect l.toArray && Region.free .any l.toArray listed i && (Region.ready .any l.toArray listed).contains i && Region.waitsFor .any l.toArray t i) = true)
    (hQ : ∀ c a w, Q (.panic c) (a.put oi.dst v) w → Q (.panic c) a w) (hS : S w) (hg : Region.wanted oi (yielded l.toArray a.tmps) = true) (hy : ∀ w, S w → (execOp a.eval oi).run P w = .ok (.value v) w)
    (h : wpAnyE P .any l.toArray Q S t fuel (listed.setIfInBounds i true) (a.put oi.dst v) w) : wpAnyE P .any l.toArray Q S t (fuel + 1) listed a w := by
  simp only [Bool.and_eq_true] at hB
  obtain ⟨⟨⟨h1, h2⟩, h3⟩, h4⟩ := hB
  refine wpAnyE.first (op_of hi) (Region.noSelect_spec h1) hQ h4 fuel listed a w (fun j oj hj hne hun hno => ?_) (by simpa using h3) (.inl ⟨hg, hy⟩) hS h
  refine Region.free_spec (op_of hi) h2 j oj hj hne hun fun e he hb heq => ?_
  unfold Region.waitsFor at hno
  rw [hj] at hno
  simp only at hno
  have : (oj.after.any fun e => Region.binds .any e && e.on == i) = true := Array.any_eq_true'.2 ⟨e, he, by simp [hb, heq]⟩
  rw [this] at hno
  cases hno
/-- Number c alone may come up. -/
theorem wpAnyE.step {c : Nat} {o : Oper} {fuel : Nat} {listed : Array Bool} {a : Act} {w : World} (ho : (l.drop c).head? = some o) (hr : Region.ready .any l.toArray listed = [c])
    (h : ∀ K : Act → World → Prop, Shut (∀ a' w', (c ≠ t → S w') → wpAnyE P .any l.toArray Q S t fuel (listed.setIfInBounds c true) a' w' → K a' w') → if Region.wanted o (yielded l.toArray a.tmps) = true then o.wp P a w K Q else K (a.put o.dst undef) w) :
    wpAnyE P .any l.toArray Q S t (fuel + 1) listed a w := by
  refine ⟨fun h0 => (by rw [hr] at h0; cases h0), fun i hi => ?_⟩
  rw [hr, List.mem_singleton] at hi
  subst hi
  have := h (fun a' w' => (i ≠ t → S w') ∧ wpAnyE P .any l.toArray Q S t fuel (listed.setIfInBounds i true) a' w') (fun a' w' h1 h2 => ⟨h1, h2⟩)
  unfold wpOp
  simp only [op_of ho]
  split
  · rename_i hw
    rw [if_pos hw] at this
    exact .inl this
  · rename_i hw
    rw [if_neg hw] at this
    exact this
theorem wpAnyE.done {listed : Array Bool} {a : Act} {w : World} {ops : Array Oper} (hr : Region.ready .any ops listed = []) (h : Q .normal a w) : wpAnyE P .any ops Q S t 0 listed a w := ⟨hr, h⟩
theorem wp_region_E {id : Nat} {a : Act} {w : World} (S : World → Prop) (t : Nat) (hm : P.follows .mixedOrders = true)
    (h : wpAnyE P .any l.toArray Q S t l.toArray.size (Array.replicate l.toArray.size false) a w.drew) : (Code.region id l.toArray true).wp P Q a w :=
  wp_region_any hm (wpAnyE.any _ _ _ _ h)
end
end Go.Proofs.Ytcecfjblgakfeaa
