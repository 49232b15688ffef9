/- Names of single parts, as path.Clean's rules see them: plain lists, no program in sight. -/
import Derived.Lib.CleanFns
import Derived.Lib.CleanSame
namespace Go.Proofs.Ytcecfjblgakfeaa
open Go.Lib
/-- A part that Clean keeps. -/
def Part (e : List UInt8) : Prop := e ≠ [] ∧ e ≠ [46] ∧ e ≠ [46, 46]
/-- A name of such parts. -/
def Plain (l : List UInt8) : Prop := ∀ e ∈ Pa.els l, Part e
theorem els_ne (l : List UInt8) : Pa.els l ≠ [] := by
  cases l with
  | nil => simp [Pa.els]
  | cons c t =>
    unfold Pa.els
    split
    · simp
    · split <;> simp
theorem inter_cons (x : List UInt8) {A : List (List UInt8)} (h : A ≠ []) : ([47] : List UInt8).intercalate (x :: A) = x ++ 47 :: ([47] : List UInt8).intercalate A := by
  cases A with
  | nil => exact absurd rfl h
  | cons b A => simp [List.intercalate, List.intersperse]
theorem els_join (l : List UInt8) : ([47] : List UInt8).intercalate (Pa.els l) = l := by
  induction l with
  | nil => rfl
  | cons c t ih =>
    unfold Pa.els
    split
    · next h => rw [inter_cons _ (els_ne t), ih, h]; rfl
    · rcases he : Pa.els t with _ | ⟨e, r⟩
      · exact absurd he (els_ne t)
      · simp only
        rw [he] at ih
        cases r with
        | nil => simp [List.intercalate, List.intersperse] at ih ⊢; exact ih
        | cons f r => rw [inter_cons _ (by simp)] at ih ⊢; rw [List.cons_append, ih]
theorem els_snoc (l : List UInt8) : Pa.els (l ++ [47]) = Pa.els l ++ [[]] := by
  induction l with
  | nil => rfl
  | cons c t ih =>
    rw [List.cons_append]
    unfold Pa.els
    rw [ih]
    split
    · rfl
    · rcases he : Pa.els t with _ | ⟨e, r⟩
      · exact absurd he (els_ne t)
      · rfl
theorem fold_plain (ro : Bool) : ∀ (A st : List (List UInt8)), (∀ e ∈ A, Part e) → A.foldl (Pa.cleanStep ro) st = A.reverse ++ st
  | [], st, _ => rfl
  | e :: A, st, h => by
    obtain ⟨h1, h2, h3⟩ := h e (by simp)
    have : Pa.cleanStep ro st e = e :: st := by simp [Pa.cleanStep, h1, h2, h3]
    rw [List.foldl_cons, this, fold_plain ro A (e :: st) fun x hx => h x (by simp [hx])]
    simp
theorem Plain.ne {l : List UInt8} (h : Plain l) : l ≠ [] := by
  rintro rfl
  exact (h [] (by simp [Pa.els])).1 rfl
theorem Plain.head {l : List UInt8} (h : Plain l) : (l.head? == some 47) = false := by
  cases l with
  | nil => rfl
  | cons c t =>
    by_cases hc : c = 47
    · subst hc
      exact absurd rfl (h [] (by simp [Pa.els])).1
    · simp [hc]
theorem Plain.abs {l : List UInt8} (h : Plain l) : Pa.isAbs l = false := h.head
theorem Plain.clean {l : List UInt8} (h : Plain l) : Pa.cleanEls l = l := by
  rw [Pa.cleanEls_rel l h.ne h.head, fold_plain false _ [] h]
  simp only [List.append_nil, List.reverse_reverse, els_join]
  rw [if_neg h.ne]
theorem Plain.clean_abs {l : List UInt8} (h : Plain l) : Pa.cleanEls (47 :: l) = 47 :: l := by
  rw [Pa.cleanEls_abs _ (by simp) (by simp)]
  have e1 : Pa.els (47 :: l) = [] :: Pa.els l := by simp [Pa.els]
  rw [e1, List.foldl_cons]
  have e2 : Pa.cleanStep true [] [] = [] := by simp [Pa.cleanStep]
  rw [e2, fold_plain true _ [] h]
  simp only [List.append_nil, List.reverse_reverse, els_join]
theorem Plain.clean_behind {l : List UInt8} (h : Plain l) : Pa.cleanEls (l ++ [47]) = l := by
  have hh : ((l ++ [47]).head? == some 47) = false := by
    cases l with
    | nil => exact absurd rfl h.ne
    | cons c t => exact h.head
  rw [Pa.cleanEls_rel _ (by simp) hh, els_snoc, List.foldl_append, fold_plain false _ [] h]
  simp only [List.append_nil, List.foldl_cons, List.foldl_nil]
  have e2 : ∀ st, Pa.cleanStep false st [] = st := fun st => by simp [Pa.cleanStep]
  rw [e2, List.reverse_reverse, els_join, if_neg h.ne]
theorem Plain.abs_behind {l : List UInt8} (h : Plain l) : Pa.isAbs (l ++ [47]) = false := by
  cases l with
  | nil => exact absurd rfl h.ne
  | cons c t => exact h.head
theorem Plain.clean_dot {l : List UInt8} (h : Plain l) : Pa.cleanEls (46 :: 47 :: l) = l := by
  rw [Pa.cleanEls_rel _ (by simp) (by simp)]
  have e1 : Pa.els (46 :: 47 :: l) = [46] :: Pa.els l := by simp [Pa.els]
  have e2 : Pa.cleanStep false [] [46] = [] := by simp [Pa.cleanStep]
  rw [e1, List.foldl_cons, e2, fold_plain false _ [] h]
  simp only [List.append_nil, List.reverse_reverse, els_join]
  rw [if_neg h.ne]
/-- The name of the record behind all others. -/
def trailer : List UInt8 := [84, 82, 65, 73, 76, 69, 82, 33, 33, 33]
theorem trailer_plain : Plain trailer := by
  have e : Pa.els trailer = [trailer] := by decide
  intro x hx
  rw [e] at hx
  simp at hx
  subst hx
  simp [Part, trailer]
end Go.Proofs.Ytcecfjblgakfeaa
