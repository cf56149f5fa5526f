/- What the reference's search finds, in plain numbers: FoundF, NothingF; the same of the sets of a schedule. -/
import Derived.Test.YtfmagbkcfeckhaaCTime
import Derived.Test.YtfmagbkcfeckhaaDFits
import Derived.Test.YtfmagbkcfeckhaaFieldsOf
import Derived.Test.YtfmagbkcfeckhaaTomor
set_option linter.unusedVariables false
set_option linter.unusedSimpArgs false
namespace Go.Proofs.Ytfmagbkcfeckhaa
open Go.RowKit

def fitsF (F : Nat → Bool) (l : Int) : Prop := F (257 + (mP (l / 86400)).toNat) = true ∧ fitF F (dP (l / 86400)).toNat (wdN (l / 86400)) = true ∧ inT F (l % 86400)
def noFitF (F : Nat → Bool) (a b : Int) : Prop := ∀ l, a ≤ l → l < b → ¬ fitsF F l
def FoundF (F : Nat → Bool) (a lim l : Int) : Prop := a ≤ l ∧ l ≤ 330000000000 ∧ yP (l / 86400) ≤ lim ∧ fitsF F l ∧ noFitF F a l
def NothingF (F : Nat → Bool) (a lim : Int) : Prop := ∀ l, a ≤ l → l ≤ 390000000000 → yP (l / 86400) ≤ lim → ¬ fitsF F l

theorem nf_day {F : Nat → Bool} {a day at_ : Int} (h0 : 0 ≤ at_) (hn : noFitF F a (86400 * day + at_)) (h : F (257 + (mP day).toNat) = false ∨ fitF F (dP day).toNat (wdN day) = false ∨ noT F at_ 86400) : noFitF F a (86400 * (day + 1) + 0) := fun l h1 h2 h3 => by
  by_cases g : l < 86400 * day + at_
  · exact hn l h1 g h3
  · have e : l / 86400 = day := by omega
    obtain ⟨f1, f2, f3⟩ := h3
    rw [e] at f1 f2
    rcases h with h | h | h
    · rw [h] at f1
      cases f1
    · rw [h] at f2
      cases f2
    · exact h _ (by omega) (by omega) f3
theorem found_day {F : Nat → Bool} {a day at_ lim t : Int} (hdm : day ≤ 3000000) (h0 : 0 ≤ at_) (ha : a ≤ 86400 * day + at_) (hl : yP day ≤ lim) (hn : noFitF F a (86400 * day + at_)) (f1 : F (257 + (mP day).toNat) = true) (f2 : fitF F (dP day).toNat (wdN day) = true) (t1 : at_ ≤ t) (t2 : t < 86400) (f3 : inT F t) (hnt : noT F at_ t) : FoundF F a lim (86400 * day + t) := by
  have e : (86400 * day + t) / 86400 = day := by omega
  have e2 : (86400 * day + t) % 86400 = t := by omega
  refine ⟨by omega, by omega, by rw [e]; exact hl, ⟨by rw [e]; exact f1, by rw [e]; exact f2, by rw [e2]; exact f3⟩, fun l h1 h2 h3 => ?_⟩
  by_cases g : l < 86400 * day + at_
  · exact hn l h1 g h3
  · exact hnt (l % 86400) (by omega) (by omega) h3.2.2
theorem nothing_over {F : Nat → Bool} {a day at_ lim : Int} (hd : -1000000 ≤ day) (ha : -1000000 ≤ a / 86400) (h0 : 0 ≤ at_) (hn : noFitF F a (86400 * day + at_)) (hl : lim < yP day) : NothingF F a lim := fun l h1 h2 h3 h4 => by
  by_cases g : l < 86400 * day + at_
  · exact hn l h1 g h4
  · have := year_mono (a := day) (b := l / 86400) hd (by omega) (by omega)
    omega
theorem never_no {F : Nat → Bool} (h : neverB F = true) (l : Int) : ¬ fitsF F l := fun ⟨_, _, f1, f2, f3⟩ => by
  have he : ∀ (G : Nat → Bool) (i : Nat), emptyB G = true → i < 63 → G (1 + i) = false := fun G i h hi => by
    have := List.all_eq_true.1 h i (List.mem_range.2 hi)
    simpa using this
  unfold neverB at h
  rw [Bool.or_eq_true, Bool.or_eq_true] at h
  rcases h with h | h | h
  · have := he _ (l % 86400 / 3600).toNat h (by omega)
    rw [show 128 + (1 + (l % 86400 / 3600).toNat) = 129 + (l % 86400 / 3600).toNat by omega, f1] at this
    cases this
  · have := he _ (l % 86400 % 3600 / 60).toNat h (by omega)
    rw [show 64 + (1 + (l % 86400 % 3600 / 60).toNat) = 65 + (l % 86400 % 3600 / 60).toNat by omega, f2] at this
    cases this
  · have := he _ (l % 86400 % 60).toNat h (by omega)
    rw [f3] at this
    cases this

/-- The cells of a schedule's fields, one by one. -/
theorem fld_at (S : Sets) (k v : Nat) (hk : k ≤ 5) (hv : v < 63) : fldB S (64 * k + 1 + v) = (decide (kLo k ≤ v ∧ v ≤ kHi k) && hasB (bitsOf S k) v) := by
  unfold fldB
  rw [show (64 * k + 1 + v) / 64 = k by omega, show (64 * k + 1 + v) % 64 = v + 1 by omega]
  rfl
theorem fld_star (S : Sets) (k : Nat) : fldB S (64 * k) = starB (bitsOf S k) := by
  unfold fldB
  rw [show (64 * k) / 64 = k by omega, show (64 * k) % 64 = 0 by omega]
  rfl
theorem fld_in (S : Sets) (k v i : Nat) (hi : i = 64 * k + 1 + v) (hk : k ≤ 5) (h1 : kLo k ≤ v) (h2 : v ≤ kHi k) : fldB S i = hasB (bitsOf S k) v := by
  have := (kHi_le k).2
  rw [hi, fld_at S k v hk (by omega), decide_eq_true ⟨h1, h2⟩, Bool.true_and]
theorem fitF_eq (S : Sets) (D W : Nat) (h1 : 1 ≤ D) (h2 : D ≤ 31) (h3 : W ≤ 6) : fitF (fldB S) D W = dmB S.dom S.dow D W := by
  unfold fitF dmB
  rw [fld_in S 3 D (193 + D) (by omega) (by omega) h1 h2, fld_in S 5 W (321 + W) (by omega) (by omega) (Nat.zero_le _) h3, show 192 = 64 * 3 from rfl, show 320 = 64 * 5 from rfl, fld_star, fld_star]
  rfl
theorem wdN_le (day : Int) : wdN day ≤ 6 := by unfold wdN; omega
theorem fits_iff (S : Sets) (l : Int) (h1 : -1000000 ≤ l / 86400) (h2 : l / 86400 ≤ 10000000) : fitsF (fldB S) l ↔ fits S l := by
  obtain ⟨m1, m2, d1, d2⟩ := mP_bounds h1 h2
  have d3 := (md_pos (yP (l / 86400)) (mP (l / 86400))).2
  have dm : mdN (ydN (absD (l / 86400))) = (dP (l / 86400)).toNat := by unfold dP; omega
  unfold fitsF fits inT monOK dayOK hourOK minOK secOK
  rw [fitF_eq S _ _ (by omega) (by omega) (wdN_le _), dm,
    fld_in S 4 (mP (l / 86400)).toNat _ (by omega) (by omega) (by show 1 ≤ _; omega) (by show _ ≤ 12; omega),
    fld_in S 2 (l % 86400 / 3600).toNat _ (by omega) (by omega) (Nat.zero_le _) (by show _ ≤ 23; omega),
    fld_in S 1 (l % 86400 % 3600 / 60).toNat _ (by omega) (by omega) (Nat.zero_le _) (by show _ ≤ 59; omega),
    fld_in S 0 (l % 86400 % 60).toNat _ (by omega) (by omega) (Nat.zero_le _) (by show _ ≤ 59; omega),
    show l % 86400 % 3600 = l % 3600 by omega, show l % 86400 % 60 = l % 60 by omega]
  exact Iff.rfl
theorem found_iff (S : Sets) (a lim l : Int) (ha : -1000000 ≤ a / 86400) : FoundF (fldB S) a lim l ↔ Found S a lim l := by
  constructor
  · rintro ⟨h1, hl, h2, h3, h4⟩
    exact ⟨h1, hl, h2, (fits_iff S l (by omega) (by omega)).1 h3, fun l' p q r => h4 l' p q ((fits_iff S l' (by omega) (by omega)).2 r)⟩
  · rintro ⟨h1, hl, h2, h3, h4⟩
    exact ⟨h1, hl, h2, (fits_iff S l (by omega) (by omega)).2 h3, fun l' p q r => h4 l' p q ((fits_iff S l' (by omega) (by omega)).1 r)⟩
theorem nothing_iff (S : Sets) (a lim : Int) (ha : -1000000 ≤ a / 86400) : NothingF (fldB S) a lim ↔ Nothing S a lim := by
  constructor
  · intro h l h1 h2 h3 h4
    exact h l h1 h2 h3 ((fits_iff S l (by omega) (by omega)).2 h4)
  · intro h l h1 h2 h3 h4
    exact h l h1 h2 h3 ((fits_iff S l (by omega) (by omega)).1 h4)
theorem year_3000000 {day : Int} (h1 : -1000000 ≤ day) (h2 : day ≤ 10000000) (h : yP day ≤ 10010) : day ≤ 2960000 := by
  obtain ⟨p, q⟩ := abs_date day h1 h2
  have h3 := (dayOf_year q).2
  have e : day = dayOf (yP day) (mP day) (dP day) := p
  rw [← e] at h3
  have := ys_mono (show yP day + 1 ≤ 10011 by omega)
  have e2 : ys 10011 ≤ 2960000 := by decide
  omega
theorem year_10000 {day : Int} (h1 : -1000000 ≤ day) (h2 : day ≤ 2933000) : yP day ≤ 10000 := by
  obtain ⟨p, q⟩ := abs_date day h1 (Int.le_trans h2 (by decide))
  have h3 := (dayOf_year q).1
  have e : day = dayOf (yP day) (mP day) (dP day) := p
  rw [← e] at h3
  rcases Int.lt_or_le 10000 (yP day) with h | h
  · have := ys_mono (show (10001 : Int) ≤ yP day from h)
    have e2 : 2933000 < ys 10001 := by decide
    omega
  · exact h
end Go.Proofs.Ytfmagbkcfeckhaa
