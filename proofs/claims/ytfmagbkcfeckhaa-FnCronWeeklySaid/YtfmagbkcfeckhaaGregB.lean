/- The calendar, in plain numbers: one date a day, the day after, months and years in order; the day of a date by the program's formula. -/
import Derived.Test.YtfmagbkcfeckhaaGreg
set_option linter.unusedVariables false
set_option linter.unusedSimpArgs false
namespace Go.Proofs.Ytfmagbkcfeckhaa

/-- The day of a date. -/
def dayOf (Y M D : Int) : Int := ys Y + msum Y (M - 1).toNat + (D - 1)
theorem dateIs_iff {day Y M D : Int} : dateIs day Y M D ↔ day = dayOf Y M D := Iff.rfl

theorem msum_succ (Y : Int) (k : Nat) : msum Y (k + 1) = msum Y k + md Y ((k : Int) + 1) := rfl
theorem msum_mono (Y : Int) (i : Nat) : ∀ j, i ≤ j → msum Y i ≤ msum Y j
  | 0, h => by
    obtain rfl : i = 0 := by omega
    exact Int.le_refl _
  | j + 1, h => by
    by_cases e : i = j + 1
    · rw [e]; exact Int.le_refl _
    · have := msum_mono Y i j (by omega)
      have h2 := (md_pos Y ((j : Int) + 1)).1
      rw [msum_succ]
      omega
/-- A month ends where the next one begins. -/
theorem msum_month (Y M : Int) (h : 1 ≤ M) : msum Y M.toNat = msum Y (M - 1).toNat + md Y M := by
  have e : M.toNat = (M - 1).toNat + 1 := by omega
  rw [e, msum_succ]
  congr 2
  omega
theorem dayOf_year {Y M D : Int} (h : okDate Y M D) : ys Y ≤ dayOf Y M D ∧ dayOf Y M D < ys (Y + 1) := by
  obtain ⟨h1, h2, h3, h4⟩ := h
  have a := msum_month Y M h1
  have b := msum_mono Y M.toNat 12 (by omega)
  have c := msum_mono Y 0 (M - 1).toNat (by omega)
  obtain ⟨s0, s1, s2, s3, s4, s5, s6, s7, s8, s9, s10, s11, s12⟩ := msum_val Y
  have y := ys_next Y
  unfold dayOf
  omega
theorem ys_mono {a b : Int} (h : a ≤ b) : ys a ≤ ys b := by
  unfold ys
  omega
theorem date_uniq {Y M D Y' M' D' : Int} (h : okDate Y M D) (h' : okDate Y' M' D') (e : dayOf Y M D = dayOf Y' M' D') : Y = Y' ∧ M = M' ∧ D = D' := by
  obtain ⟨a1, a2⟩ := dayOf_year h
  obtain ⟨b1, b2⟩ := dayOf_year h'
  have hY : Y = Y' := by
    rcases Int.lt_trichotomy Y Y' with g | g | g
    · have := ys_mono (show Y + 1 ≤ Y' by omega)
      omega
    · exact g
    · have := ys_mono (show Y' + 1 ≤ Y by omega)
      omega
  subst hY
  have hM : M = M' := by
    obtain ⟨c1, c2, c3, c4⟩ := h
    obtain ⟨d1, d2, d3, d4⟩ := h'
    unfold dayOf at e
    rcases Int.lt_trichotomy M M' with g | g | g
    · have p := msum_month Y M c1
      have q := msum_mono Y M.toNat (M' - 1).toNat (by omega)
      omega
    · exact g
    · have p := msum_month Y M' d1
      have q := msum_mono Y M'.toNat (M - 1).toNat (by omega)
      omega
  subst hM
  unfold dayOf at e
  exact ⟨rfl, rfl, by omega⟩

/-- The program's reckoning is the calendar's. -/
theorem date_of {day : Int} (h1 : -1000000 ≤ day) (h2 : day ≤ 10000000) {Y M D : Int} (h : okDate Y M D) (e : dayOf Y M D = day) : Y = yP day ∧ M = mP day ∧ D = dP day := by
  obtain ⟨a, b⟩ := abs_date day h1 h2
  exact date_uniq h b (e.trans (dateIs_iff.1 a))
theorem year_mono {a b : Int} (h1 : -1000000 ≤ a) (h2 : b ≤ 10000000) (h : a ≤ b) : yP a ≤ yP b := by
  obtain ⟨p, q⟩ := abs_date a h1 (by omega)
  obtain ⟨p', q'⟩ := abs_date b (by omega) h2
  have x := (dayOf_year q).1
  have y := (dayOf_year q').2
  rw [← dateIs_iff.1 p] at x
  rw [← dateIs_iff.1 p'] at y
  rcases Int.lt_or_le (yP b) (yP a) with g | g
  · have := ys_mono (show yP b + 1 ≤ yP a by omega)
    omega
  · exact g
/-- The day after a day: the next of the same month, or the first of the next month, or of the next year. -/
theorem day_next {day : Int} (h1 : -1000000 ≤ day) (h2 : day < 10000000) :
    (dP day < md (yP day) (mP day) ∧ yP (day + 1) = yP day ∧ mP (day + 1) = mP day ∧ dP (day + 1) = dP day + 1) ∨
    (dP day = md (yP day) (mP day) ∧ mP day < 12 ∧ yP (day + 1) = yP day ∧ mP (day + 1) = mP day + 1 ∧ dP (day + 1) = 1) ∨
    (dP day = md (yP day) (mP day) ∧ mP day = 12 ∧ yP (day + 1) = yP day + 1 ∧ mP (day + 1) = 1 ∧ dP (day + 1) = 1) := by
  obtain ⟨p, q⟩ := abs_date day h1 (by omega)
  obtain ⟨c1, c2, c3, c4⟩ := q
  rw [dateIs_iff] at p
  by_cases hd : dP day < md (yP day) (mP day)
  · have ok : okDate (yP day) (mP day) (dP day + 1) := ⟨c1, c2, by omega, by omega⟩
    have e : dayOf (yP day) (mP day) (dP day + 1) = day + 1 := by
      have : dayOf (yP day) (mP day) (dP day + 1) = dayOf (yP day) (mP day) (dP day) + 1 := by unfold dayOf; omega
      omega
    obtain ⟨x, y, z⟩ := date_of (by omega) (by omega) ok e
    exact .inl ⟨hd, x.symm, y.symm, z.symm⟩
  · have hd' : dP day = md (yP day) (mP day) := by omega
    by_cases hm : mP day < 12
    · have ok : okDate (yP day) (mP day + 1) 1 := ⟨by omega, by omega, by omega, by have := (md_pos (yP day) (mP day + 1)).1; omega⟩
      have e : dayOf (yP day) (mP day + 1) 1 = day + 1 := by
        have a := msum_month (yP day) (mP day) c1
        have : dayOf (yP day) (mP day + 1) 1 = dayOf (yP day) (mP day) (dP day) + 1 := by
          unfold dayOf
          rw [show mP day + 1 - 1 = mP day by omega, a, hd']
          omega
        omega
      obtain ⟨x, y, z⟩ := date_of (by omega) (by omega) ok e
      exact .inr (.inl ⟨hd', hm, x.symm, y.symm, z.symm⟩)
    · have hm' : mP day = 12 := by omega
      have ok : okDate (yP day + 1) 1 1 := ⟨by omega, by omega, by omega, by have := (md_pos (yP day + 1) 1).1; omega⟩
      have e : dayOf (yP day + 1) 1 1 = day + 1 := by
        obtain ⟨s0, s1, s2, s3, s4, s5, s6, s7, s8, s9, s10, s11, s12⟩ := msum_val (yP day)
        have v := (md_val (yP day)).2.2.2.2.2.2.2.2.2.2.2
        have y := ys_next (yP day)
        have t0 : msum (yP day + 1) ((1 : Int) - 1).toNat = 0 := rfl
        have : dayOf (yP day + 1) 1 1 = dayOf (yP day) (mP day) (dP day) + 1 := by
          unfold dayOf
          rw [t0, hd', hm', show ((12 : Int) - 1).toNat = 11 from rfl, s11, v]
          omega
        omega
      obtain ⟨x, y, z⟩ := date_of (by omega) (by omega) ok e
      exact .inr (.inr ⟨hd', hm', x.symm, y.symm, z.symm⟩)

/-- The day of a date by the program's formula: years from March on. -/
theorem abs_days (Y M D : Int) (hm1 : 1 ≤ M) (hm2 : M ≤ 12) (hY1 : -100000 ≤ Y) (hY2 : Y ≤ 100000) (hD1 : 1 ≤ D) (hD2 : D ≤ 40) (j m y : Nat) (hj : j = if M < 3 then 1 else 0) (hm : (m : Int) = M + 12 * j) (hy : (y : Int) = Y - j + 292277022400) :
    ((146097 * (y / 100) / 4 + 1461 * (y % 100) / 4 + cumM m : Nat) : Int) + D - 1 = dayOf Y M D + 106751991073400 := by
  obtain ⟨C, hC⟩ : ∃ C, y / 100 = C := ⟨_, rfl⟩
  obtain ⟨cy, hcy⟩ : ∃ cy, y % 100 = cy := ⟨_, rfl⟩
  rw [hC, hcy]
  have e1 : 146097 * C / 4 = 36524 * C + C / 4 := by omega
  have e2 : 1461 * cy / 4 = 365 * cy + cy / 4 := by omega
  rw [e1, e2]
  obtain ⟨N, hN⟩ : ∃ N : Int, 100 * (C : Int) - 292277022400 + cy = N := ⟨_, rfl⟩
  have n1 : N / 4 = 25 * C + (cy / 4 : Nat) - 73069255600 := by omega
  have n2 : N / 100 = C - 2922770224 := by omega
  have n3 : N / 400 = (C / 4 : Nat) - 730692556 := by omega
  have y0 := ys_lp N
  have y1 := ys_next N
  have ny : Y = N + j := by omega
  subst ny
  have key : ((36524 * C + C / 4 + (365 * cy + cy / 4) : Nat) : Int) = 365 * N + N / 4 - N / 100 + N / 400 - 719527 + 59 + 106751991073400 := by
    rw [n1, n2, n3]
    omega
  obtain ⟨A, hA⟩ : ∃ A, 36524 * C + C / 4 + (365 * cy + cy / 4) = A := ⟨_, rfl⟩
  rw [hA] at key ⊢
  obtain ⟨G, hG⟩ : ∃ G, 365 * N + N / 4 - N / 100 + N / 400 - 719527 = G := ⟨_, rfl⟩
  rw [hG] at key y0
  clear hG hA n1 n2 n3 hN hC hcy e1 e2 hy hY1 hY2
  rcases (by omega : M = 1 ∨ M = 2 ∨ M = 3 ∨ M = 4 ∨ M = 5 ∨ M = 6 ∨ M = 7 ∨ M = 8 ∨ M = 9 ∨ M = 10 ∨ M = 11 ∨ M = 12) with rfl | rfl | rfl | rfl | rfl | rfl | rfl | rfl | rfl | rfl | rfl | rfl
  · obtain rfl : j = 1 := by rw [hj]; rfl
    obtain rfl : m = 13 := by omega
    obtain ⟨s0, s1, s2, s3, s4, s5, s6, s7, s8, s9, s10, s11, s12⟩ := msum_val (N + (1 : Nat))
    have hc : cumM 13 = 306 := by decide
    have eN : N + ((1 : Nat) : Int) = N + 1 := by omega
    unfold dayOf
    rw [hc, show ((1 : Int) - 1).toNat = 0 from rfl, s0]
    rw [eN]
    omega
  · obtain rfl : j = 1 := by rw [hj]; rfl
    obtain rfl : m = 14 := by omega
    obtain ⟨s0, s1, s2, s3, s4, s5, s6, s7, s8, s9, s10, s11, s12⟩ := msum_val (N + (1 : Nat))
    have hc : cumM 14 = 337 := by decide
    have eN : N + ((1 : Nat) : Int) = N + 1 := by omega
    unfold dayOf
    rw [hc, show ((2 : Int) - 1).toNat = 1 from rfl, s1]
    rw [eN]
    omega
  · obtain rfl : j = 0 := by rw [hj]; rfl
    obtain rfl : m = 3 := by omega
    obtain ⟨s0, s1, s2, s3, s4, s5, s6, s7, s8, s9, s10, s11, s12⟩ := msum_val (N + (0 : Nat))
    have hc : cumM 3 = 0 := by decide
    have eN : N + ((0 : Nat) : Int) = N := by omega
    unfold dayOf
    rw [hc, show ((3 : Int) - 1).toNat = 2 from rfl, s2]
    rw [eN]
    omega
  · obtain rfl : j = 0 := by rw [hj]; rfl
    obtain rfl : m = 4 := by omega
    obtain ⟨s0, s1, s2, s3, s4, s5, s6, s7, s8, s9, s10, s11, s12⟩ := msum_val (N + (0 : Nat))
    have hc : cumM 4 = 31 := by decide
    have eN : N + ((0 : Nat) : Int) = N := by omega
    unfold dayOf
    rw [hc, show ((4 : Int) - 1).toNat = 3 from rfl, s3]
    rw [eN]
    omega
  · obtain rfl : j = 0 := by rw [hj]; rfl
    obtain rfl : m = 5 := by omega
    obtain ⟨s0, s1, s2, s3, s4, s5, s6, s7, s8, s9, s10, s11, s12⟩ := msum_val (N + (0 : Nat))
    have hc : cumM 5 = 61 := by decide
    have eN : N + ((0 : Nat) : Int) = N := by omega
    unfold dayOf
    rw [hc, show ((5 : Int) - 1).toNat = 4 from rfl, s4]
    rw [eN]
    omega
  · obtain rfl : j = 0 := by rw [hj]; rfl
    obtain rfl : m = 6 := by omega
    obtain ⟨s0, s1, s2, s3, s4, s5, s6, s7, s8, s9, s10, s11, s12⟩ := msum_val (N + (0 : Nat))
    have hc : cumM 6 = 92 := by decide
    have eN : N + ((0 : Nat) : Int) = N := by omega
    unfold dayOf
    rw [hc, show ((6 : Int) - 1).toNat = 5 from rfl, s5]
    rw [eN]
    omega
  · obtain rfl : j = 0 := by rw [hj]; rfl
    obtain rfl : m = 7 := by omega
    obtain ⟨s0, s1, s2, s3, s4, s5, s6, s7, s8, s9, s10, s11, s12⟩ := msum_val (N + (0 : Nat))
    have hc : cumM 7 = 122 := by decide
    have eN : N + ((0 : Nat) : Int) = N := by omega
    unfold dayOf
    rw [hc, show ((7 : Int) - 1).toNat = 6 from rfl, s6]
    rw [eN]
    omega
  · obtain rfl : j = 0 := by rw [hj]; rfl
    obtain rfl : m = 8 := by omega
    obtain ⟨s0, s1, s2, s3, s4, s5, s6, s7, s8, s9, s10, s11, s12⟩ := msum_val (N + (0 : Nat))
    have hc : cumM 8 = 153 := by decide
    have eN : N + ((0 : Nat) : Int) = N := by omega
    unfold dayOf
    rw [hc, show ((8 : Int) - 1).toNat = 7 from rfl, s7]
    rw [eN]
    omega
  · obtain rfl : j = 0 := by rw [hj]; rfl
    obtain rfl : m = 9 := by omega
    obtain ⟨s0, s1, s2, s3, s4, s5, s6, s7, s8, s9, s10, s11, s12⟩ := msum_val (N + (0 : Nat))
    have hc : cumM 9 = 184 := by decide
    have eN : N + ((0 : Nat) : Int) = N := by omega
    unfold dayOf
    rw [hc, show ((9 : Int) - 1).toNat = 8 from rfl, s8]
    rw [eN]
    omega
  · obtain rfl : j = 0 := by rw [hj]; rfl
    obtain rfl : m = 10 := by omega
    obtain ⟨s0, s1, s2, s3, s4, s5, s6, s7, s8, s9, s10, s11, s12⟩ := msum_val (N + (0 : Nat))
    have hc : cumM 10 = 214 := by decide
    have eN : N + ((0 : Nat) : Int) = N := by omega
    unfold dayOf
    rw [hc, show ((10 : Int) - 1).toNat = 9 from rfl, s9]
    rw [eN]
    omega
  · obtain rfl : j = 0 := by rw [hj]; rfl
    obtain rfl : m = 11 := by omega
    obtain ⟨s0, s1, s2, s3, s4, s5, s6, s7, s8, s9, s10, s11, s12⟩ := msum_val (N + (0 : Nat))
    have hc : cumM 11 = 245 := by decide
    have eN : N + ((0 : Nat) : Int) = N := by omega
    unfold dayOf
    rw [hc, show ((11 : Int) - 1).toNat = 10 from rfl, s10]
    rw [eN]
    omega
  · obtain rfl : j = 0 := by rw [hj]; rfl
    obtain rfl : m = 12 := by omega
    obtain ⟨s0, s1, s2, s3, s4, s5, s6, s7, s8, s9, s10, s11, s12⟩ := msum_val (N + (0 : Nat))
    have hc : cumM 12 = 275 := by decide
    have eN : N + ((0 : Nat) : Int) = N := by omega
    unfold dayOf
    rw [hc, show ((12 : Int) - 1).toNat = 11 from rfl, s11]
    rw [eN]
    omega
end Go.Proofs.Ytfmagbkcfeckhaa
