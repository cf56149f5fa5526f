/- The laws of the week: with all months and all days of the month a schedule asks the weekday and the time alone. Plain. -/
import Derived.Test.YtfmagbkcfeckhaaStarM
set_option linter.unusedVariables false
set_option linter.unusedSimpArgs false
namespace Go.Proofs.Ytfmagbkcfeckhaa
open Go.RowKit

/-- All days, but for those of the week. -/
def weekS (a0 a1 a2 dow : Int) : Sets := ⟨a0, a1, a2, allDom, allMon, dow⟩
theorem all_dom : ∀ D, D < 32 → 1 ≤ D → hasB allDom D = true := by decide +kernel
theorem all_mon : ∀ D, D < 13 → 1 ≤ D → hasB allMon D = true := by decide +kernel
theorem star_dom : starB allDom = true := by decide +kernel
def fitW (a0 a1 a2 dow l : Int) : Prop := hasB dow (wdN (l / 86400)) = true ∧ hasB a2 (l % 86400 / 3600).toNat = true ∧ hasB a1 (l % 3600 / 60).toNat = true ∧ hasB a0 (l % 60).toNat = true
theorem week_fits (a0 a1 a2 dow l : Int) (h1 : -1000000 ≤ l / 86400) (h2 : l / 86400 ≤ 10000000) : fits (weekS a0 a1 a2 dow) l ↔ fitW a0 a1 a2 dow l := by
  obtain ⟨m1, m2, d1, d2⟩ := mP_bounds h1 h2
  have d3 := Int.le_trans d2 (md_pos (yP (l / 86400)) (mP (l / 86400))).2
  obtain ⟨M, hM⟩ : ∃ M : Nat, mP (l / 86400) = M := Int.eq_ofNat_of_zero_le (Int.le_trans (by decide) m1)
  obtain ⟨D, hD⟩ : ∃ D : Nat, dP (l / 86400) = D := Int.eq_ofNat_of_zero_le (Int.le_trans (by decide) d1)
  have dm : mdN (ydN (absD (l / 86400))) = D := by unfold dP at hD; exact Int.ofNat_inj.1 hD
  rw [hM] at m1 m2
  rw [hD] at d1 d3
  have e1 : monOK (weekS a0 a1 a2 dow) (l / 86400) = true := by
    unfold monOK weekS
    rw [hM, Int.toNat_natCast]
    exact all_mon M (by clear hM hD dm d2; omega) (by clear hM hD dm d2; omega)
  have e2 : dayOK (weekS a0 a1 a2 dow) (l / 86400) = hasB dow (wdN (l / 86400)) := by
    unfold dayOK weekS dmB
    rw [dm, star_dom, Bool.true_or, if_pos rfl]
    have : hasB allDom D = true := all_dom D (by clear hM hD dm d2; omega) (by clear hM hD dm d2; omega)
    show (hasB allDom D && hasB dow (wdN (l / 86400))) = _
    rw [this, Bool.true_and]
  unfold fits fitW
  rw [e1, e2]
  constructor
  · rintro ⟨_, h⟩
    exact h
  · intro h
    exact ⟨rfl, h⟩
/-- A week later it is the same. -/
theorem week_shift (a0 a1 a2 dow l k : Int) (h1 : -1000000 ≤ l / 86400) (h2 : l / 86400 ≤ 10000000) (h3 : -1000000 ≤ (l + 604800 * k) / 86400) (h4 : (l + 604800 * k) / 86400 ≤ 10000000) : fitW a0 a1 a2 dow (l + 604800 * k) ↔ fitW a0 a1 a2 dow l := by
  have e : (l + 604800 * k) / 86400 = l / 86400 + 7 * k := by omega
  have w : wdN (l / 86400 + 7 * k) = wdN (l / 86400) := by
    rw [e] at h3 h4
    unfold wdN absD
    omega
  unfold fitW
  rw [e, w, show (l + 604800 * k) % 86400 = l % 86400 by omega, show (l + 604800 * k) % 3600 = l % 3600 by omega, show (l + 604800 * k) % 60 = l % 60 by omega]
/-- No second at all: no hour, minute, second or day of the week. -/
def noneW (a0 a1 a2 dow : Int) : Prop := ∀ d h m s : Nat, d < 7 → h < 24 → m < 60 → s < 60 → ¬ (hasB dow d = true ∧ hasB a2 h = true ∧ hasB a1 m = true ∧ hasB a0 s = true)
/-- From each second on there is one within eight days, or there is none ever. -/
theorem week_some (a0 a1 a2 dow a : Int) (h1 : -62200000000 ≤ a) (h2 : a ≤ 253500000000) : noneW a0 a1 a2 dow ∨ ∃ l, a ≤ l ∧ l ≤ a + 691200 ∧ fitW a0 a1 a2 dow l := by
  by_cases hn : noneW a0 a1 a2 dow
  · exact .inl hn
  · right
    unfold noneW at hn
    simp only [Classical.not_forall] at hn
    obtain ⟨d, h, m, s, hd, hh, hm, hs, hc⟩ := hn
    have hc := Classical.not_not.1 hc
    obtain ⟨c1, c2, c3, c4⟩ := hc
    -- the first day from a's next day on whose weekday is d
    obtain ⟨q, hq⟩ : ∃ q, a / 86400 = q := ⟨_, rfl⟩
    obtain ⟨j, hj0, hj1, hj⟩ : ∃ j : Int, 1 ≤ j ∧ j ≤ 7 ∧ wdN (q + j) = d := by
      refine ⟨1 + ((d : Int) - (q + 1 + 106751991073400 + 3) % 7) % 7, by omega, by omega, ?_⟩
      unfold wdN absD
      omega
    refine ⟨86400 * (q + j) + (3600 * h + 60 * m + s), by omega, by omega, ?_⟩
    unfold fitW
    have e1 : (86400 * (q + j) + (3600 * h + 60 * m + s) : Int) / 86400 = q + j := by omega
    have e2 : ((86400 * (q + j) + (3600 * h + 60 * m + s) : Int) % 86400 / 3600).toNat = h := by omega
    have e3 : ((86400 * (q + j) + (3600 * h + 60 * m + s) : Int) % 3600 / 60).toNat = m := by omega
    have e4 : ((86400 * (q + j) + (3600 * h + 60 * m + s) : Int) % 60).toNat = s := by omega
    rw [e1, e2, e3, e4, hj]
    exact ⟨c1, c2, c3, c4⟩
end Go.Proofs.Ytfmagbkcfeckhaa
