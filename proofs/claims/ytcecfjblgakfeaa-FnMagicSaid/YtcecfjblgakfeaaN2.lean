/- What the reference's test of a name shows: plain lists. -/
import Derived.Test.YtcecfjblgakfeaaN
namespace Go.Proofs.Ytcecfjblgakfeaa
open Go.Lib
/-- A byte that a name may have. -/
def Okc (c : UInt8) : Prop := (97 ≤ c.toNat ∧ c.toNat ≤ 122) ∨ (65 ≤ c.toNat ∧ c.toNat ≤ 90) ∨ (48 ≤ c.toNat ∧ c.toNat ≤ 57) ∨ c.toNat = 95 ∨ c.toNat = 46 ∨ c.toNat = 47
/-- What is known of a name that the reference calls proper. -/
def GoodName (l : List UInt8) : Prop := Plain l ∧ l.length ≤ 60 ∧ ∀ c ∈ l, Okc c
theorem els_noslash (v : List UInt8) (h : ∀ c ∈ v, c ≠ 47) : Pa.els v = [v] := by
  induction v with
  | nil => rfl
  | cons c t ih =>
    unfold Pa.els
    rw [if_neg (h c (by simp)), ih fun x hx => h x (by simp [hx])]
theorem els_app (u v : List UInt8) (h : ∀ c ∈ v, c ≠ 47) : Pa.els (u ++ 47 :: v) = Pa.els u ++ [v] := by
  induction u with
  | nil =>
    rw [List.nil_append]
    unfold Pa.els
    rw [if_pos rfl, els_noslash v h]
    rfl
  | cons c t ih =>
    rw [List.cons_append]
    unfold Pa.els
    rw [ih]
    split
    · rfl
    · rcases he : Pa.els t with _ | ⟨e, r⟩
      · exact absurd he (els_ne t)
      · rfl
/-- The state of the test's loop: k bytes are looked at, the part at hand begins at a. -/
def NState (l : List UInt8) (k a : Nat) : Prop :=
  a ≤ k ∧ (∀ c ∈ (l.take k).drop a, c ≠ 47) ∧ (∀ c ∈ l.take k, Okc c) ∧ (k = l.length + 1 → a = k) ∧ (a = 0 ∨ (1 ≤ a ∧ Plain (l.take (a - 1)) ∧ (a ≤ l.length → l[a - 1]? = some 47)))
theorem NState.start (l : List UInt8) : NState l 0 0 := ⟨Nat.le_refl _, by simp, by simp, by omega, .inl rfl⟩
theorem take_next (l : List UInt8) (k : Nat) (hk : k < l.length) : l.take (k + 1) = l.take k ++ [l[k]] := by
  rw [List.take_succ_eq_append_getElem hk]
theorem NState.char {l : List UInt8} {k a : Nat} (h : NState l k a) (hk : k < l.length) (hc : l[k] ≠ 47) (ho : Okc l[k]) : NState l (k + 1) a := by
  obtain ⟨h1, h2, h3, h4, h5⟩ := h
  refine ⟨by omega, ?_, ?_, by omega, h5⟩
  · rw [take_next l k hk, List.drop_append_of_le_length (by simp; omega)]
    intro c hcm
    rcases List.mem_append.1 hcm with hm | hm
    · exact h2 c hm
    · rw [List.mem_singleton.1 hm]; exact hc
  · rw [take_next l k hk]
    intro c hcm
    rcases List.mem_append.1 hcm with hm | hm
    · exact h3 c hm
    · rw [List.mem_singleton.1 hm]; exact ho
theorem NState.plain {l : List UInt8} {k a : Nat} (h : NState l k a) (hk : k ≤ l.length) (hp : Part ((l.take k).drop a)) : Plain (l.take k) := by
  obtain ⟨h1, h2, h3, h4, h5⟩ := h
  rcases h5 with rfl | ⟨h5, h6, h7⟩
  · rw [List.drop_zero] at h2 hp
    intro e he
    rw [els_noslash _ h2] at he
    simp only [List.mem_singleton] at he
    rw [he]
    exact hp
  · have h7 := h7 (by omega)
    have e : l.take k = l.take (a - 1) ++ 47 :: (l.take k).drop a := by
      have e1 : l.take k = (l.take k).take (a - 1) ++ (l.take k).drop (a - 1) := (List.take_append_drop _ _).symm
      rw [List.take_take, Nat.min_eq_left (by omega)] at e1
      have hlt : a - 1 < (l.take k).length := by rw [List.length_take]; omega
      rw [List.drop_eq_getElem_cons hlt, show a - 1 + 1 = a by omega] at e1
      have hg : (l.take k)[a - 1] = 47 := by
        rw [List.getElem_take]
        rw [List.getElem?_eq_getElem (by omega)] at h7
        injection h7
      rw [hg] at e1
      exact e1
    intro x hx
    rw [e, els_app _ _ h2] at hx
    rcases List.mem_append.1 hx with hm | hm
    · exact h6 x hm
    · rw [List.mem_singleton.1 hm]; exact hp
theorem NState.stop {l : List UInt8} {k a : Nat} (h : NState l k a) (hk : k ≤ l.length) (hc : k < l.length → l[k]? = some 47) (hp : Part ((l.take k).drop a)) : NState l (k + 1) (k + 1) := by
  have hpl := h.plain hk hp
  obtain ⟨h1, h2, h3, h4, h5⟩ := h
  refine ⟨Nat.le_refl _, by rw [List.drop_of_length_le (by rw [List.length_take]; omega)]; simp, ?_, fun _ => rfl, .inr ⟨by omega, hpl, fun hl => hc (by omega)⟩⟩
  rcases Nat.lt_or_ge k l.length with hlt | hge
  · rw [take_next l k hlt]
    intro c hcm
    rcases List.mem_append.1 hcm with hm | hm
    · exact h3 c hm
    · have h47 := hc hlt
      rw [List.getElem?_eq_getElem hlt] at h47
      injection h47 with h47
      rw [List.mem_singleton.1 hm, h47]
      simp [Okc]
  · rw [List.take_of_length_le (by omega)] at h3 ⊢
    exact h3
theorem NState.good {l : List UInt8} {a : Nat} (h : NState l (l.length + 1) a) (h60 : l.length ≤ 60) : GoodName l := by
  obtain ⟨h1, h2, h3, h4, h5⟩ := h
  obtain rfl := h4 rfl
  rw [List.take_of_length_le (by omega)] at h3
  rcases h5 with h | ⟨_, h6, _⟩
  · omega
  · rw [Nat.add_sub_cancel, List.take_length] at h6
    exact ⟨h6, h60, h3⟩
theorem GoodName.not_trailer {l : List UInt8} (h : GoodName l) : l ≠ trailer := by
  rintro rfl
  have := h.2.2 33 (by simp [trailer])
  simp [Okc] at this
theorem GoodName.no_null {l : List UInt8} (h : GoodName l) : ∀ c ∈ l, c ≠ 0 := by
  rintro c hc rfl
  have := h.2.2 0 hc
  simp [Okc] at this
end Go.Proofs.Ytcecfjblgakfeaa
