/- The laws of the week: answers a number of weeks apart. Plain. -/
import Derived.Test.YtfmagbkcfeckhaaWeek
set_option linter.unusedVariables false
set_option linter.unusedSimpArgs false
namespace Go.Proofs.Ytfmagbkcfeckhaa
open Go.RowKit

theorem empty_all (F : Nat → Bool) : emptyB F = true ↔ ∀ v, v < 63 → F (1 + v) = false := by
  unfold emptyB
  rw [List.all_eq_true]
  constructor
  · intro h v hv
    simpa using h v (List.mem_range.2 hv)
  · intro h v hv
    simpa using h v (List.mem_range.1 hv)
theorem empty_fld (S : Sets) (k : Nat) (hk : k ≤ 5) (F : Nat → Bool) (hF : ∀ i, F i = fldB S (64 * k + i)) : emptyB F = true ↔ ∀ v, kLo k ≤ v → v ≤ kHi k → hasB (bitsOf S k) v = false := by
  rw [empty_all]
  have hh := (kHi_le k).2
  constructor
  · intro h v h1 h2
    have := h v (by omega)
    rw [hF, show 64 * k + (1 + v) = 64 * k + 1 + v by omega, fld_at S k v hk (by omega), decide_eq_true ⟨h1, h2⟩, Bool.true_and] at this
    exact this
  · intro h v hv
    rw [hF, show 64 * k + (1 + v) = 64 * k + 1 + v by omega, fld_at S k v hk hv]
    by_cases g : kLo k ≤ v ∧ v ≤ kHi k
    · rw [h v g.1 g.2, Bool.and_false]
    · rw [decide_eq_false g, Bool.false_and]
theorem none_iff (a0 a1 a2 dow : Int) : (neverB (fldB (weekS a0 a1 a2 dow)) || emptyB (fun i => fldB (weekS a0 a1 a2 dow) (320 + i))) = true ↔ noneW a0 a1 a2 dow := by
  unfold neverB
  rw [Bool.or_eq_true, Bool.or_eq_true, Bool.or_eq_true,
    empty_fld (weekS a0 a1 a2 dow) 2 (by omega) _ (fun i => rfl), empty_fld (weekS a0 a1 a2 dow) 1 (by omega) _ (fun i => rfl), empty_fld (weekS a0 a1 a2 dow) 0 (by omega) _ (fun i => by rw [Nat.mul_zero, Nat.zero_add]), empty_fld (weekS a0 a1 a2 dow) 5 (by omega) _ (fun i => rfl)]
  show ((((∀ v, 0 ≤ v → v ≤ 23 → hasB a2 v = false) ∨ (∀ v, 0 ≤ v → v ≤ 59 → hasB a1 v = false) ∨ (∀ v, 0 ≤ v → v ≤ 59 → hasB a0 v = false))) ∨ (∀ v, 0 ≤ v → v ≤ 6 → hasB dow v = false)) ↔ _
  unfold noneW
  constructor
  · rintro ((h | h | h) | h) d hr m s hd hh hm hs ⟨c1, c2, c3, c4⟩
    · rw [h hr (Nat.zero_le _) (by omega)] at c2
      cases c2
    · rw [h m (Nat.zero_le _) (by omega)] at c3
      cases c3
    · rw [h s (Nat.zero_le _) (by omega)] at c4
      cases c4
    · rw [h d (Nat.zero_le _) (by omega)] at c1
      cases c1
  · intro h
    have ex : ∀ (m : Int) (n : Nat), ¬ (∀ v, 0 ≤ v → v ≤ n → hasB m v = false) → ∃ v, v ≤ n ∧ hasB m v = true := fun m n hn => by
      simp only [Classical.not_forall] at hn
      obtain ⟨v, _, h2, h3⟩ := hn
      exact ⟨v, h2, by cases hc : hasB m v; · exact absurd hc h3
                       · rfl⟩
    by_cases p1 : ∀ v, 0 ≤ v → v ≤ 23 → hasB a2 v = false
    · exact .inl (.inl p1)
    · by_cases p2 : ∀ v, 0 ≤ v → v ≤ 59 → hasB a1 v = false
      · exact .inl (.inr (.inl p2))
      · by_cases p3 : ∀ v, 0 ≤ v → v ≤ 59 → hasB a0 v = false
        · exact .inl (.inr (.inr p3))
        · by_cases p4 : ∀ v, 0 ≤ v → v ≤ 6 → hasB dow v = false
          · exact .inr p4
          · obtain ⟨hr, q1, r1⟩ := ex a2 23 p1
            obtain ⟨m, q2, r2⟩ := ex a1 59 p2
            obtain ⟨s, q3, r3⟩ := ex a0 59 p3
            obtain ⟨d, q4, r4⟩ := ex dow 6 p4
            exact absurd ⟨r4, r1, r2, r3⟩ (h d hr m s (by omega) (by omega) (by omega) (by omega))
/-- An answer of a weekly schedule: the least second, within eight days; none just where there is none ever. -/
theorem week_ans {a0 a1 a2 dow s x : Int} {b : Bool} (h1 : -62135596800 ≤ s) (h2 : s ≤ 253402300799) (h : IsAns (weekS a0 a1 a2 dow) s 0 x b) :
    (b = false ∧ x = 0 ∧ noneW a0 a1 a2 dow) ∨ (b = true ∧ ¬ noneW a0 a1 a2 dow ∧ s < x ∧ x ≤ 330000000000 ∧ fitW a0 a1 a2 dow x ∧ ∀ l, s < l → l < x → ¬ fitW a0 a1 a2 dow l) := by
  have y := year_10000 (day := (s + 1) / 86400) (by omega) (by omega)
  rcases h with ⟨rfl, l, rfl, hf⟩ | ⟨rfl, rfl, hn⟩
  · right
    rw [Int.sub_zero]
    obtain ⟨f1, f2, f3, f4, f5⟩ := hf
    have fw := (week_fits a0 a1 a2 dow l (by omega) (by omega)).1 f4
    refine ⟨rfl, fun hn => ?_, by omega, f2, fw, fun l' q1 q2 q3 => f5 l' (by omega) q2 ((week_fits a0 a1 a2 dow l' (by omega) (by omega)).2 q3)⟩
    obtain ⟨c1, c2, c3, c4⟩ := fw
    exact hn (wdN (l / 86400)) (l % 86400 / 3600).toNat (l % 3600 / 60).toNat (l % 60).toNat (Nat.lt_of_le_of_lt (wdN_le _) (by decide)) (by omega) (by omega) (by omega) ⟨c1, c2, c3, c4⟩
  · left
    refine ⟨rfl, rfl, ?_⟩
    rcases week_some a0 a1 a2 dow (s + 1) (by omega) (by omega) with g | ⟨l, q1, q2, q3⟩
    · exact g
    · refine absurd ((week_fits a0 a1 a2 dow l (by omega) (by omega)).2 q3) (hn l q1 (by omega) ?_)
      have a1 := abs_date (l / 86400) (by omega) (by omega)
      have a2 := abs_date ((s + 1) / 86400) (by omega) (by omega)
      have b1 := (dayOf_year a1.2).1
      have b2 := (dayOf_year a2.2).2
      have e1 : l / 86400 = dayOf (yP (l / 86400)) (mP (l / 86400)) (dP (l / 86400)) := a1.1
      have e2 : (s + 1) / 86400 = dayOf (yP ((s + 1) / 86400)) (mP ((s + 1) / 86400)) (dP ((s + 1) / 86400)) := a2.1
      rw [← e1] at b1
      rw [← e2] at b2
      clear a1 a2 e1 e2 q3 hn
      generalize yP (l / 86400) = Y at b1 ⊢
      generalize yP ((s + 1) / 86400) = Z at b2 y ⊢
      rcases Int.lt_or_le (Z + 5) Y with g | g
      · have b3 := ys_mono (show Z + 6 ≤ Y by omega)
        have b4 : ys (Z + 1) + 1800 ≤ ys (Z + 6) := by unfold ys; omega
        omega
      · exact g
theorem week_two {a0 a1 a2 dow s x x' k : Int} {b b' : Bool} (h1 : -62135596800 ≤ s) (h2 : s ≤ 253402300799) (u1 : -62135596800 ≤ s + 604800 * k) (u2 : s + 604800 * k ≤ 253402300799) (h : IsAns (weekS a0 a1 a2 dow) s 0 x b) (h' : IsAns (weekS a0 a1 a2 dow) (s + 604800 * k) 0 x' b') :
    b' = b ∧ (b = true → x' = x + 604800 * k ∧ x ≤ 330000000000 ∧ s < x) ∧ b = !(neverB (fldB (weekS a0 a1 a2 dow)) || emptyB (fun i => fldB (weekS a0 a1 a2 dow) (320 + i))) := by
  have hk : ∀ c : Bool, (c = true ↔ noneW a0 a1 a2 dow) → ∀ b : Bool, (b = false ∧ noneW a0 a1 a2 dow) ∨ (b = true ∧ ¬ noneW a0 a1 a2 dow) → b = !c := fun c hc b hb => by
    rcases hb with ⟨rfl, hb⟩ | ⟨rfl, hb⟩
    · rw [hc.2 hb]
      rfl
    · cases c
      · rfl
      · exact absurd (hc.1 rfl) hb
  rcases week_ans h1 h2 h with ⟨rfl, rfl, hn⟩ | ⟨rfl, hn, p1, p2, p3, p4⟩
  · rcases week_ans u1 u2 h' with ⟨rfl, rfl, hn'⟩ | ⟨rfl, hn', _⟩
    · exact ⟨rfl, fun e => (by cases e), hk _ (none_iff a0 a1 a2 dow) _ (.inl ⟨rfl, hn⟩)⟩
    · exact absurd hn hn'
  · rcases week_ans u1 u2 h' with ⟨rfl, rfl, hn'⟩ | ⟨rfl, hn', q1, q2, q3, q4⟩
    · exact absurd hn' hn
    · refine ⟨rfl, fun _ => ⟨?_, p2, p1⟩, hk _ (none_iff a0 a1 a2 dow) _ (.inr ⟨rfl, hn⟩)⟩
      have r1 : ¬ x + 604800 * k < x' := fun g => q4 (x + 604800 * k) (by omega) g ((week_shift a0 a1 a2 dow x k (by omega) (by omega) (by omega) (by omega)).2 p3)
      have r2 : ¬ x' < x + 604800 * k := fun g => p4 (x' - 604800 * k) (by omega) (by omega) (by
        have e : x' - 604800 * k + 604800 * k = x' := by omega
        have := week_shift a0 a1 a2 dow (x' - 604800 * k) k (by omega) (by omega) (by rw [e]; omega) (by rw [e]; omega)
        rw [e] at this
        exact this.1 q3)
      omega
end Go.Proofs.Ytfmagbkcfeckhaa
