/- The order of versions: a version and the one right after it. -/
import Derived.Test.YtkohcmgckkenpaaDoorNextP
set_option linter.unusedVariables false
set_option linter.unusedSimpArgs false
namespace Go.Proofs.YtkohcmgckkenpaaDoor
open Go.RowKit

def preCmp (p q : List UInt8) : Int := if p = [] then (if q = [] then 0 else 1) else if q = [] then -1 else preC p q
def cmpV (n : Int) (p q : List UInt8) : Int := if n = 0 then preCmp p q else n
def num3 (a b c a' b' c' : Int) : Int := if segC a a' = 0 then (if segC b b' = 0 then segC c c' else segC b b') else segC a a'

theorem segC_self (a : Int) : segC a a = 0 := by simp [segC]
theorem num3_self (a b c : Int) : num3 a b c a b c = 0 := by simp [num3, segC_self]

theorem parts_ne (p : List UInt8) (h : ∀ x ∈ cut 46 p, Okid x) : ∀ x ∈ cut 46 p, x ≠ [] := fun x hx => (h x hx).ne
theorem preC_lex (p q : List UInt8) (hp : ∀ x ∈ cut 46 p, Okid x) (hq : ∀ x ∈ cut 46 q, x ≠ []) : preC p q = lexL (cut 46 p) (cut 46 q) := first_lex _ _ (parts_ne p hp) hq

theorem cut_zero (p : List UInt8) : cut 46 (p ++ [46, 48]) = cut 46 p ++ [[48]] := by
  induction p with
  | nil => decide
  | cons x r ih =>
    by_cases hx : x = 46
    · subst hx
      simp only [List.cons_append, cut_same, ih]
    · rw [List.cons_append, cut_other 46 x _ hx, cut_other 46 x _ hx, ih]
      cases h : cut 46 r with
      | nil => exact absurd h (cut_ne 46 r)
      | cons y t => rfl

/-- Behind a prerelease: one identifier 0 more. -/
theorem next_pre (n : Int) (v u : List UInt8) (hv : v ≠ []) (ov : ∀ x ∈ cut 46 v, Okid x) (ou : u ≠ [] → ∀ x ∈ cut 46 u, Okid x) :
    cmpV 0 v (v ++ [46, 48]) < 0 ∧ (0 < cmpV n u v ↔ 0 ≤ cmpV n u (v ++ [46, 48])) := by
  have hne : v ++ [46, 48] ≠ [] := by simp
  have hz : ∀ y ∈ cut 46 (v ++ [46, 48]), y ≠ [] := by
    rw [cut_zero]
    intro y hy
    rcases List.mem_append.1 hy with h | h
    · exact (ov y h).ne
    · rw [List.mem_singleton.1 h]; simp
  constructor
  · unfold cmpV preCmp
    rw [if_pos rfl, if_neg hv, if_neg hne, preC_lex v _ ov hz, cut_zero, lex_more]
    decide
  · unfold cmpV
    by_cases hn : n = 0
    · rw [if_pos hn, if_pos hn]
      unfold preCmp
      by_cases hu : u = []
      · rw [if_pos hu, if_pos hu, if_neg hv, if_neg hne]; decide
      · rw [if_neg hu, if_neg hu, if_neg hv, if_neg hne, preC_lex u _ (ou hu) (parts_ne v ov), preC_lex u _ (ou hu) hz, cut_zero]
        exact lex_next _ _ (ou hu)
    · rw [if_neg hn, if_neg hn]; omega

/-- Behind a release: the first prerelease of the next patch. -/
theorem zero_first (u : List UInt8) (ou : u ≠ [] → ∀ x ∈ cut 46 u, Okid x) : 0 ≤ preCmp u [48] := by
  unfold preCmp
  by_cases hu : u = []
  · rw [if_pos hu]; decide
  · rw [if_neg hu, if_neg (by decide)]
    have h1 : ∀ y ∈ cut 46 [48], y ≠ [] := by decide
    rw [preC_lex u _ (ou hu) h1]
    have e : cut 46 ([48] : List UInt8) = [] ++ [[48]] := by decide
    rw [e]
    have := (lex_next (cut 46 u) [] (ou hu)).1
    refine this ?_
    cases h : cut 46 u with
    | nil => exact absurd h (cut_ne 46 u)
    | cons y t => simp [lexL]

theorem next_rel (n k l : Int) (u : List UInt8) (ou : u ≠ [] → ∀ x ∈ cut 46 u, Okid x) (hk : k < 0) (h1 : n ≤ 0 → l < 0) (h2 : 0 < n → 0 ≤ l) :
    cmpV k [] [48] < 0 ∧ (0 < cmpV n u [] ↔ 0 ≤ cmpV l u [48]) := by
  constructor
  · unfold cmpV
    rw [if_neg (by omega)]; omega
  · unfold cmpV
    by_cases hn : n = 0
    · have := h1 (by omega)
      rw [if_pos hn, if_neg (by omega)]
      unfold preCmp
      by_cases hu : u = []
      · rw [if_pos hu, if_pos rfl]; omega
      · rw [if_neg hu, if_pos rfl]; omega
    · rw [if_neg hn]
      by_cases hl : l = 0
      · rw [if_pos hl]
        have := zero_first u ou
        constructor
        · intro _; exact this
        · intro _
          apply Classical.byContradiction
          intro hc
          have := h1 (by omega)
          omega
      · rw [if_neg hl]
        constructor
        · intro h; exact h2 h
        · intro h
          apply Classical.byContradiction
          intro hc
          have := h1 (by omega)
          omega

theorem segC_cases (a b : Int) : (a < b ∧ segC a b = -1) ∨ (a = b ∧ segC a b = 0) ∨ (b < a ∧ segC a b = 1) := by
  unfold segC
  split
  · exact .inl ⟨by assumption, rfl⟩
  · split
    · exact .inr (.inr ⟨by assumption, rfl⟩)
    · exact .inr (.inl ⟨by omega, rfl⟩)
theorem num3_cases (a b c a' b' c' : Int) : (num3 a b c a' b' c' = -1 ∧ (a < a' ∨ (a = a' ∧ (b < b' ∨ (b = b' ∧ c < c'))))) ∨ (num3 a b c a' b' c' = 0 ∧ a = a' ∧ b = b' ∧ c = c') ∨ (num3 a b c a' b' c' = 1 ∧ (a' < a ∨ (a = a' ∧ (b' < b ∨ (b = b' ∧ c' < c))))) := by
  unfold num3
  rcases segC_cases a a' with ⟨h, e⟩ | ⟨h, e⟩ | ⟨h, e⟩ <;> rcases segC_cases b b' with ⟨h', e'⟩ | ⟨h', e'⟩ | ⟨h', e'⟩ <;> rcases segC_cases c c' with ⟨h'', e''⟩ | ⟨h'', e''⟩ | ⟨h'', e''⟩ <;> simp [e, e', e''] <;> omega
end Go.Proofs.YtkohcmgckkenpaaDoor
