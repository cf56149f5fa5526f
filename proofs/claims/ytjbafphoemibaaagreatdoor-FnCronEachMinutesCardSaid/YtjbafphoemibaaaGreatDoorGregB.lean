/- The calendar, in plain numbers: the program's day formulas give the one date whose day it is. The calendar, in plain numbers: one date a day, the day after, months and years in order; the day of a date by the program's formula. -/
import Derived.Test.YtjbafphoemibaaaGreatDoorDate
import Derived.Test.YtjbafphoemibaaaGreatDoorAbs
set_option linter.unusedVariables false
set_option linter.unusedSimpArgs false
namespace Go.Proofs.YtjbafphoemibaaaGreatDoor

/-- A date of the calendar. -/
def okDate (Y M D : Int) : Prop := 1 ≤ M ∧ M ≤ 12 ∧ 1 ≤ D ∧ D ≤ md Y M
def lpI (y : Int) : Int := if lp y then 1 else 0

theorem tz (y k : Int) (hk : k ≠ 0) : (y.tmod k == 0) = decide (y % k = 0) := by
  by_cases h : y % k = 0
  · have := Int.dvd_iff_tmod_eq_zero.1 (Int.dvd_of_emod_eq_zero h)
    simp [this, h]
  · have : y.tmod k ≠ 0 := fun e => h (Int.emod_eq_zero_of_dvd (Int.dvd_iff_tmod_eq_zero.2 e))
    simp [this, h]
theorem lp_iff (y : Int) : lp y = true ↔ y % 4 = 0 ∧ (y % 100 ≠ 0 ∨ y % 400 = 0) := by
  unfold lp
  rw [tz y 4 (by decide), tz y 400 (by decide), bne, tz y 100 (by decide)]
  simp
theorem lpI_cases (y : Int) : (lpI y = 1 ∧ y % 4 = 0 ∧ (y % 100 ≠ 0 ∨ y % 400 = 0)) ∨ (lpI y = 0 ∧ (y % 4 ≠ 0 ∨ (y % 100 = 0 ∧ y % 400 ≠ 0))) := by
  unfold lpI
  by_cases h : lp y = true
  · rw [if_pos h]
    exact .inl ⟨rfl, ((lp_iff y).1 h).1, ((lp_iff y).1 h).2⟩
  · rw [if_neg h]
    refine .inr ⟨rfl, ?_⟩
    have := mt (lp_iff y).2 h
    omega
theorem ys_next (y : Int) : ys (y + 1) = ys y + 365 + lpI y := by
  unfold ys
  rcases lpI_cases y with h | h <;> omega
theorem ys_lp (y : Int) : ys y = 365 * y + y / 4 - y / 100 + y / 400 - 719527 - lpI y := by
  unfold ys
  rcases lpI_cases y with h | h <;> omega

theorem md_val (y : Int) : md y 1 = 31 ∧ md y 2 = 28 + lpI y ∧ md y 3 = 31 ∧ md y 4 = 30 ∧ md y 5 = 31 ∧ md y 6 = 30 ∧ md y 7 = 31 ∧ md y 8 = 31 ∧ md y 9 = 30 ∧ md y 10 = 31 ∧ md y 11 = 30 ∧ md y 12 = 31 := by
  refine ⟨rfl, ?_, rfl, rfl, rfl, rfl, rfl, rfl, rfl, rfl, rfl, rfl⟩
  unfold md lpI
  by_cases h : lp y = true <;> simp [h]
theorem msum_val (y : Int) : msum y 0 = 0 ∧ msum y 1 = 31 ∧ msum y 2 = 59 + lpI y ∧ msum y 3 = 90 + lpI y ∧ msum y 4 = 120 + lpI y ∧ msum y 5 = 151 + lpI y ∧ msum y 6 = 181 + lpI y ∧ msum y 7 = 212 + lpI y ∧ msum y 8 = 243 + lpI y ∧ msum y 9 = 273 + lpI y ∧ msum y 10 = 304 + lpI y ∧ msum y 11 = 334 + lpI y ∧ msum y 12 = 365 + lpI y := by
  obtain ⟨h1, h2, h3, h4, h5, h6, h7, h8, h9, h10, h11, h12⟩ := md_val y
  have a0 : msum y 0 = 0 := rfl
  have a1 : msum y 1 = msum y 0 + md y 1 := rfl
  have a2 : msum y 2 = msum y 1 + md y 2 := rfl
  have a3 : msum y 3 = msum y 2 + md y 3 := rfl
  have a4 : msum y 4 = msum y 3 + md y 4 := rfl
  have a5 : msum y 5 = msum y 4 + md y 5 := rfl
  have a6 : msum y 6 = msum y 5 + md y 6 := rfl
  have a7 : msum y 7 = msum y 6 + md y 7 := rfl
  have a8 : msum y 8 = msum y 7 + md y 8 := rfl
  have a9 : msum y 9 = msum y 8 + md y 9 := rfl
  have a10 : msum y 10 = msum y 9 + md y 10 := rfl
  have a11 : msum y 11 = msum y 10 + md y 11 := rfl
  have a12 : msum y 12 = msum y 11 + md y 12 := rfl
  omega

/-- The days ahead of a month, counted from March 1. -/
def cumM (m : Nat) : Nat := (979 * m - 2919) / 32
/-- What the month of a day of the year (from March 1) is, by the program's formulas. -/
theorem month_table : ∀ y, y < 366 → 3 ≤ moN y ∧ moN y ≤ 14 ∧ cumM (moN y) + mdN y = y + 1 ∧ (306 ≤ y ↔ 13 ≤ moN y) ∧ (moN y = 14 → mdN y ≤ 29) ∧ ((moN y = 4 ∨ moN y = 6 ∨ moN y = 9 ∨ moN y = 11) → mdN y ≤ 30) := by decide +kernel

theorem cd_quot (c : Nat) (h : c < 146100) : 2939745 * c / 4294967296 = c / 1461 ∧ 2939745 * c % 4294967296 / 2939745 = c % 1461 := by
  obtain ⟨q, hq⟩ : ∃ q, c / 1461 = q := ⟨_, rfl⟩
  obtain ⟨r, hr⟩ : ∃ r, c % 1461 = r := ⟨_, rfl⟩
  have hc : c = 1461 * q + r := by omega
  have hr1 : r ≤ 1460 := by omega
  have hq1 : q ≤ 99 := by omega
  rw [hq, hr]
  obtain ⟨x, hx⟩ : ∃ x, 149 * q + 2939745 * r = x := ⟨_, rfl⟩
  have hx1 : x < 4294967296 := by omega
  have e : 2939745 * c = 4294967296 * q + x := by omega
  rw [e]
  clear e hc hq hr
  refine ⟨by omega, ?_⟩
  have e2 : (4294967296 * q + x) % 4294967296 = x := by omega
  rw [e2, ← hx]
  clear e2 hx hx1
  omega
theorem cyN_eq (d : Nat) : cyN d = (4 * ((4 * d + 3) % 146097 / 4) + 3) / 1461 ∧ ydN d = (4 * ((4 * d + 3) % 146097 / 4) + 3) % 1461 / 4 := by
  have h := cd_quot (cdN d) (cdN_lt d)
  unfold cyN ydN
  rw [h.1, h.2]
  unfold cdN
  rw [or3]
  exact ⟨rfl, rfl⟩

/-- The year, the month, the day of the month of a day (counted from 1970), as the program reckons. -/
def absD (day : Int) : Nat := (day + 106751991073400).toNat
def jfN (d : Nat) : Nat := if 306 ≤ ydN d then 1 else 0
def yP (day : Int) : Int := 100 * (((4 * absD day + 3) / 146097 : Nat) : Int) - 292277022400 + cyN (absD day) + jfN (absD day)
def mP (day : Int) : Int := (moN (ydN (absD day)) : Int) - 12 * jfN (absD day)
def dP (day : Int) : Int := mdN (ydN (absD day))

/-- The march-based reckoning: a day is so many days behind March 1 of its year, and the last of 366 days is there in leap years alone. -/
theorem march (d C cy ay : Nat) (hC : (4 * d + 3) / 146097 = C) (hcy : (4 * ((4 * d + 3) % 146097 / 4) + 3) / 1461 = cy) (hay : (4 * ((4 * d + 3) % 146097 / 4) + 3) % 1461 / 4 = ay) :
    d = 36524 * C + C / 4 + 365 * cy + cy / 4 + ay ∧ cy < 100 ∧ ay ≤ 365 ∧ (ay = 365 → cy % 4 = 3 ∧ (cy = 99 → C % 4 = 3)) := by
  obtain ⟨R, hR⟩ : ∃ R, (4 * d + 3) % 146097 = R := ⟨_, rfl⟩
  rw [hR] at hcy hay
  obtain ⟨c, hc⟩ : ∃ c, R / 4 = c := ⟨_, rfl⟩
  rw [hc] at hcy hay
  obtain ⟨k, hk⟩ : ∃ k, R % 4 = k := ⟨_, rfl⟩
  obtain ⟨r, hr⟩ : ∃ r, (4 * c + 3) % 1461 = r := ⟨_, rfl⟩
  rw [hr] at hay
  obtain ⟨m, hm⟩ : ∃ m, r % 4 = m := ⟨_, rfl⟩
  obtain ⟨K, hK⟩ : ∃ K, C / 4 = K := ⟨_, rfl⟩
  obtain ⟨j, hj⟩ : ∃ j, C % 4 = j := ⟨_, rfl⟩
  obtain ⟨v, hv⟩ : ∃ v, cy / 4 = v := ⟨_, rfl⟩
  obtain ⟨u, hu⟩ : ∃ u, cy % 4 = u := ⟨_, rfl⟩
  have a1 : 4 * d + 3 = 146097 * C + R := by omega
  have a2 : R = 4 * c + k := by omega
  have a3 : 4 * c + 3 = 1461 * cy + r := by omega
  have a4 : r = 4 * ay + m := by omega
  have a5 : C = 4 * K + j := by omega
  have a6 : cy = 4 * v + u := by omega
  have b1 : R < 146097 := by omega
  have b2 : k < 4 := by omega
  have b3 : r < 1461 := by omega
  have b4 : m < 4 := by omega
  have b5 : j < 4 := by omega
  have b6 : u < 4 := by omega
  rw [hK, hv, hu, hj]
  clear hC hcy hay hR hc hk hr hm hK hj hv hu
  have e1 : j + k = 3 := by omega
  have e2 : u + m = 3 := by omega
  have c1 : c ≤ 36524 := by omega
  refine ⟨by omega, by omega, by omega, fun h => ⟨by omega, fun h9 => ?_⟩⟩
  subst h9
  omega

theorem abs_date (day : Int) (h1 : -1000000 ≤ day) (h2 : day ≤ 10000000) : dateIs day (yP day) (mP day) (dP day) ∧ okDate (yP day) (mP day) (dP day) := by
  obtain ⟨d, hd⟩ : ∃ d, absD day = d := ⟨_, rfl⟩
  have hdd : (d : Int) = day + 106751991073400 := by rw [← hd]; unfold absD; omega
  unfold yP mP dP
  rw [hd]
  obtain ⟨C, hC⟩ : ∃ C, (4 * d + 3) / 146097 = C := ⟨_, rfl⟩
  obtain ⟨cy, hcy⟩ : ∃ cy, cyN d = cy := ⟨_, rfl⟩
  obtain ⟨ay, hay⟩ : ∃ ay, ydN d = ay := ⟨_, rfl⟩
  obtain ⟨e1, e2⟩ := cyN_eq d
  obtain ⟨m1, m2, m3, m4⟩ := march d C cy ay hC (e1.symm.trans hcy) (e2.symm.trans hay)
  obtain ⟨t1, t2, t3, t4, t5, t6⟩ := month_table ay (by omega)
  rw [hC, hcy, hay]
  have hj : jfN d = if 306 ≤ ay then 1 else 0 := by unfold jfN; rw [hay]
  obtain ⟨J, hJ⟩ : ∃ J, jfN d = J := ⟨_, rfl⟩
  rw [hJ] at hj ⊢
  obtain ⟨mo, hmo⟩ : ∃ mo, moN ay = mo := ⟨_, rfl⟩
  obtain ⟨d1, d2⟩ := mdN_le ay
  obtain ⟨dm, hdm⟩ : ∃ dm, mdN ay = dm := ⟨_, rfl⟩
  rw [hdm] at d1 d2
  rw [hmo] at t1 t2 t3 t4 t5 t6 ⊢
  rw [hdm] at t3 t5 t6 ⊢
  clear e1 e2 hC hcy hay hd hmo hdm hJ
  obtain ⟨N, hN⟩ : ∃ N : Int, 100 * (C : Int) - 292277022400 + cy = N := ⟨_, rfl⟩
  have n1 : N / 4 = 25 * C + (cy / 4 : Nat) - 73069255600 := by omega
  have n2 : N / 100 = C - 2922770224 := by omega
  have n3 : N / 400 = (C / 4 : Nat) - 730692556 := by omega
  have key : 365 * N + N / 4 - N / 100 + N / 400 - 719527 = day - 59 - ay := by rw [n1, n2, n3]; omega
  have y0 := ys_lp N
  have y1 := ys_next N
  have ny : 100 * (C : Int) - 292277022400 + cy + J = N + J := by omega
  have leap : ay = 365 → lpI (N + 1) = 1 := by
    intro h
    obtain ⟨q1, q2⟩ := m4 h
    rcases lpI_cases (N + 1) with h1 | h1
    · exact h1.1
    · exfalso
      clear n1 n2 n3 key y0 y1 hdd m1 t3 hj
      by_cases h9 : cy = 99
      · have := q2 h9
        omega
      · omega
  rw [ny]
  clear n1 n2 n3 ny hN hdd m1 m4
  obtain ⟨G, hG⟩ : ∃ G, 365 * N + N / 4 - N / 100 + N / 400 - 719527 = G := ⟨_, rfl⟩
  rw [hG] at key y0
  clear hG
  rcases (by omega : mo = 3 ∨ mo = 4 ∨ mo = 5 ∨ mo = 6 ∨ mo = 7 ∨ mo = 8 ∨ mo = 9 ∨ mo = 10 ∨ mo = 11 ∨ mo = 12 ∨ mo = 13 ∨ mo = 14) with rfl | rfl | rfl | rfl | rfl | rfl | rfl | rfl | rfl | rfl | rfl | rfl
  · have hc : cumM 3 = 0 := by decide
    rw [hc] at t3
    have hJ : J = 0 := by
      rw [hj]
      split <;> omega
    subst hJ
    obtain ⟨h1, h2, h3, h4, h5, h6, h7, h8, h9, h10, h11, h12⟩ := md_val (N + (0 : Nat))
    obtain ⟨s0, s1, s2, s3, s4, s5, s6, s7, s8, s9, s10, s11, s12⟩ := msum_val (N + (0 : Nat))
    have eM : (((3 : Nat) : Int) - 12 * ((0 : Nat) : Int)) = 3 := by decide
    have eN : N + ((0 : Nat) : Int) = N := by omega
    rw [eM]
    unfold dateIs okDate
    rw [show ((3 : Int) - 1).toNat = 2 from rfl, s2, h3]
    rw [eN]
    refine ⟨by omega, by omega, by omega, by omega, ?_⟩
    omega
  · have hc : cumM 4 = 31 := by decide
    rw [hc] at t3
    have hJ : J = 0 := by
      rw [hj]
      split <;> omega
    subst hJ
    obtain ⟨h1, h2, h3, h4, h5, h6, h7, h8, h9, h10, h11, h12⟩ := md_val (N + (0 : Nat))
    obtain ⟨s0, s1, s2, s3, s4, s5, s6, s7, s8, s9, s10, s11, s12⟩ := msum_val (N + (0 : Nat))
    have eM : (((4 : Nat) : Int) - 12 * ((0 : Nat) : Int)) = 4 := by decide
    have eN : N + ((0 : Nat) : Int) = N := by omega
    rw [eM]
    unfold dateIs okDate
    rw [show ((4 : Int) - 1).toNat = 3 from rfl, s3, h4]
    rw [eN]
    refine ⟨by omega, by omega, by omega, by omega, ?_⟩
    omega
  · have hc : cumM 5 = 61 := by decide
    rw [hc] at t3
    have hJ : J = 0 := by
      rw [hj]
      split <;> omega
    subst hJ
    obtain ⟨h1, h2, h3, h4, h5, h6, h7, h8, h9, h10, h11, h12⟩ := md_val (N + (0 : Nat))
    obtain ⟨s0, s1, s2, s3, s4, s5, s6, s7, s8, s9, s10, s11, s12⟩ := msum_val (N + (0 : Nat))
    have eM : (((5 : Nat) : Int) - 12 * ((0 : Nat) : Int)) = 5 := by decide
    have eN : N + ((0 : Nat) : Int) = N := by omega
    rw [eM]
    unfold dateIs okDate
    rw [show ((5 : Int) - 1).toNat = 4 from rfl, s4, h5]
    rw [eN]
    refine ⟨by omega, by omega, by omega, by omega, ?_⟩
    omega
  · have hc : cumM 6 = 92 := by decide
    rw [hc] at t3
    have hJ : J = 0 := by
      rw [hj]
      split <;> omega
    subst hJ
    obtain ⟨h1, h2, h3, h4, h5, h6, h7, h8, h9, h10, h11, h12⟩ := md_val (N + (0 : Nat))
    obtain ⟨s0, s1, s2, s3, s4, s5, s6, s7, s8, s9, s10, s11, s12⟩ := msum_val (N + (0 : Nat))
    have eM : (((6 : Nat) : Int) - 12 * ((0 : Nat) : Int)) = 6 := by decide
    have eN : N + ((0 : Nat) : Int) = N := by omega
    rw [eM]
    unfold dateIs okDate
    rw [show ((6 : Int) - 1).toNat = 5 from rfl, s5, h6]
    rw [eN]
    refine ⟨by omega, by omega, by omega, by omega, ?_⟩
    omega
  · have hc : cumM 7 = 122 := by decide
    rw [hc] at t3
    have hJ : J = 0 := by
      rw [hj]
      split <;> omega
    subst hJ
    obtain ⟨h1, h2, h3, h4, h5, h6, h7, h8, h9, h10, h11, h12⟩ := md_val (N + (0 : Nat))
    obtain ⟨s0, s1, s2, s3, s4, s5, s6, s7, s8, s9, s10, s11, s12⟩ := msum_val (N + (0 : Nat))
    have eM : (((7 : Nat) : Int) - 12 * ((0 : Nat) : Int)) = 7 := by decide
    have eN : N + ((0 : Nat) : Int) = N := by omega
    rw [eM]
    unfold dateIs okDate
    rw [show ((7 : Int) - 1).toNat = 6 from rfl, s6, h7]
    rw [eN]
    refine ⟨by omega, by omega, by omega, by omega, ?_⟩
    omega
  · have hc : cumM 8 = 153 := by decide
    rw [hc] at t3
    have hJ : J = 0 := by
      rw [hj]
      split <;> omega
    subst hJ
    obtain ⟨h1, h2, h3, h4, h5, h6, h7, h8, h9, h10, h11, h12⟩ := md_val (N + (0 : Nat))
    obtain ⟨s0, s1, s2, s3, s4, s5, s6, s7, s8, s9, s10, s11, s12⟩ := msum_val (N + (0 : Nat))
    have eM : (((8 : Nat) : Int) - 12 * ((0 : Nat) : Int)) = 8 := by decide
    have eN : N + ((0 : Nat) : Int) = N := by omega
    rw [eM]
    unfold dateIs okDate
    rw [show ((8 : Int) - 1).toNat = 7 from rfl, s7, h8]
    rw [eN]
    refine ⟨by omega, by omega, by omega, by omega, ?_⟩
    omega
  · have hc : cumM 9 = 184 := by decide
    rw [hc] at t3
    have hJ : J = 0 := by
      rw [hj]
      split <;> omega
    subst hJ
    obtain ⟨h1, h2, h3, h4, h5, h6, h7, h8, h9, h10, h11, h12⟩ := md_val (N + (0 : Nat))
    obtain ⟨s0, s1, s2, s3, s4, s5, s6, s7, s8, s9, s10, s11, s12⟩ := msum_val (N + (0 : Nat))
    have eM : (((9 : Nat) : Int) - 12 * ((0 : Nat) : Int)) = 9 := by decide
    have eN : N + ((0 : Nat) : Int) = N := by omega
    rw [eM]
    unfold dateIs okDate
    rw [show ((9 : Int) - 1).toNat = 8 from rfl, s8, h9]
    rw [eN]
    refine ⟨by omega, by omega, by omega, by omega, ?_⟩
    omega
  · have hc : cumM 10 = 214 := by decide
    rw [hc] at t3
    have hJ : J = 0 := by
      rw [hj]
      split <;> omega
    subst hJ
    obtain ⟨h1, h2, h3, h4, h5, h6, h7, h8, h9, h10, h11, h12⟩ := md_val (N + (0 : Nat))
    obtain ⟨s0, s1, s2, s3, s4, s5, s6, s7, s8, s9, s10, s11, s12⟩ := msum_val (N + (0 : Nat))
    have eM : (((10 : Nat) : Int) - 12 * ((0 : Nat) : Int)) = 10 := by decide
    have eN : N + ((0 : Nat) : Int) = N := by omega
    rw [eM]
    unfold dateIs okDate
    rw [show ((10 : Int) - 1).toNat = 9 from rfl, s9, h10]
    rw [eN]
    refine ⟨by omega, by omega, by omega, by omega, ?_⟩
    omega
  · have hc : cumM 11 = 245 := by decide
    rw [hc] at t3
    have hJ : J = 0 := by
      rw [hj]
      split <;> omega
    subst hJ
    obtain ⟨h1, h2, h3, h4, h5, h6, h7, h8, h9, h10, h11, h12⟩ := md_val (N + (0 : Nat))
    obtain ⟨s0, s1, s2, s3, s4, s5, s6, s7, s8, s9, s10, s11, s12⟩ := msum_val (N + (0 : Nat))
    have eM : (((11 : Nat) : Int) - 12 * ((0 : Nat) : Int)) = 11 := by decide
    have eN : N + ((0 : Nat) : Int) = N := by omega
    rw [eM]
    unfold dateIs okDate
    rw [show ((11 : Int) - 1).toNat = 10 from rfl, s10, h11]
    rw [eN]
    refine ⟨by omega, by omega, by omega, by omega, ?_⟩
    omega
  · have hc : cumM 12 = 275 := by decide
    rw [hc] at t3
    have hJ : J = 0 := by
      rw [hj]
      split <;> omega
    subst hJ
    obtain ⟨h1, h2, h3, h4, h5, h6, h7, h8, h9, h10, h11, h12⟩ := md_val (N + (0 : Nat))
    obtain ⟨s0, s1, s2, s3, s4, s5, s6, s7, s8, s9, s10, s11, s12⟩ := msum_val (N + (0 : Nat))
    have eM : (((12 : Nat) : Int) - 12 * ((0 : Nat) : Int)) = 12 := by decide
    have eN : N + ((0 : Nat) : Int) = N := by omega
    rw [eM]
    unfold dateIs okDate
    rw [show ((12 : Int) - 1).toNat = 11 from rfl, s11, h12]
    rw [eN]
    refine ⟨by omega, by omega, by omega, by omega, ?_⟩
    omega
  · have hc : cumM 13 = 306 := by decide
    rw [hc] at t3
    have hJ : J = 1 := by
      rw [hj]
      split <;> omega
    subst hJ
    obtain ⟨h1, h2, h3, h4, h5, h6, h7, h8, h9, h10, h11, h12⟩ := md_val (N + (1 : Nat))
    obtain ⟨s0, s1, s2, s3, s4, s5, s6, s7, s8, s9, s10, s11, s12⟩ := msum_val (N + (1 : Nat))
    have eM : (((13 : Nat) : Int) - 12 * ((1 : Nat) : Int)) = 1 := by decide
    have eN : N + ((1 : Nat) : Int) = N + 1 := by omega
    rw [eM]
    unfold dateIs okDate
    rw [show ((1 : Int) - 1).toNat = 0 from rfl, s0, h1]
    rw [eN]
    refine ⟨by omega, by omega, by omega, by omega, ?_⟩
    omega
  · have hc : cumM 14 = 337 := by decide
    rw [hc] at t3
    have hJ : J = 1 := by
      rw [hj]
      split <;> omega
    subst hJ
    obtain ⟨h1, h2, h3, h4, h5, h6, h7, h8, h9, h10, h11, h12⟩ := md_val (N + (1 : Nat))
    obtain ⟨s0, s1, s2, s3, s4, s5, s6, s7, s8, s9, s10, s11, s12⟩ := msum_val (N + (1 : Nat))
    have eM : (((14 : Nat) : Int) - 12 * ((1 : Nat) : Int)) = 2 := by decide
    have eN : N + ((1 : Nat) : Int) = N + 1 := by omega
    rw [eM]
    unfold dateIs okDate
    rw [show ((2 : Int) - 1).toNat = 1 from rfl, s1, h2]
    rw [eN]
    refine ⟨by omega, by omega, by omega, by omega, ?_⟩
    by_cases h : ay = 365
    · have := leap h; omega
    · rcases lpI_cases (N + 1) with h' | h' <;> omega
end Go.Proofs.YtjbafphoemibaaaGreatDoor

set_option linter.unusedVariables false
set_option linter.unusedSimpArgs false
namespace Go.Proofs.YtjbafphoemibaaaGreatDoor

/-- The day of a date. -/
def dayOf (Y M D : Int) : Int := ys Y + msum Y (M - 1).toNat + (D - 1)
theorem dateIs_iff {day Y M D : Int} : dateIs day Y M D ↔ day = dayOf Y M D := Iff.rfl

theorem msum_succ (Y : Int) (k : Nat) : msum Y (k + 1) = msum Y k + md Y ((k : Int) + 1) := rfl
theorem msum_mono (Y : Int) (i : Nat) : ∀ j, i ≤ j → msum Y i ≤ msum Y j
  | 0, h => by
    obtain rfl : i = 0 := by omega
    exact Int.le_refl _
  | j + 1, h => by
    by_cases e : i = j + 1
    · rw [e]; exact Int.le_refl _
    · have := msum_mono Y i j (by omega)
      have h2 := (md_pos Y ((j : Int) + 1)).1
      rw [msum_succ]
      omega
/-- A month ends where the next one begins. -/
theorem msum_month (Y M : Int) (h : 1 ≤ M) : msum Y M.toNat = msum Y (M - 1).toNat + md Y M := by
  have e : M.toNat = (M - 1).toNat + 1 := by omega
  rw [e, msum_succ]
  congr 2
  omega
theorem dayOf_year {Y M D : Int} (h : okDate Y M D) : ys Y ≤ dayOf Y M D ∧ dayOf Y M D < ys (Y + 1) := by
  obtain ⟨h1, h2, h3, h4⟩ := h
  have a := msum_month Y M h1
  have b := msum_mono Y M.toNat 12 (by omega)
  have c := msum_mono Y 0 (M - 1).toNat (by omega)
  obtain ⟨s0, s1, s2, s3, s4, s5, s6, s7, s8, s9, s10, s11, s12⟩ := msum_val Y
  have y := ys_next Y
  unfold dayOf
  omega
theorem ys_mono {a b : Int} (h : a ≤ b) : ys a ≤ ys b := by
  unfold ys
  omega
theorem date_uniq {Y M D Y' M' D' : Int} (h : okDate Y M D) (h' : okDate Y' M' D') (e : dayOf Y M D = dayOf Y' M' D') : Y = Y' ∧ M = M' ∧ D = D' := by
  obtain ⟨a1, a2⟩ := dayOf_year h
  obtain ⟨b1, b2⟩ := dayOf_year h'
  have hY : Y = Y' := by
    rcases Int.lt_trichotomy Y Y' with g | g | g
    · have := ys_mono (show Y + 1 ≤ Y' by omega)
      omega
    · exact g
    · have := ys_mono (show Y' + 1 ≤ Y by omega)
      omega
  subst hY
  have hM : M = M' := by
    obtain ⟨c1, c2, c3, c4⟩ := h
    obtain ⟨d1, d2, d3, d4⟩ := h'
    unfold dayOf at e
    rcases Int.lt_trichotomy M M' with g | g | g
    · have p := msum_month Y M c1
      have q := msum_mono Y M.toNat (M' - 1).toNat (by omega)
      omega
    · exact g
    · have p := msum_month Y M' d1
      have q := msum_mono Y M'.toNat (M - 1).toNat (by omega)
      omega
  subst hM
  unfold dayOf at e
  exact ⟨rfl, rfl, by omega⟩

/-- The program's reckoning is the calendar's. -/
theorem date_of {day : Int} (h1 : -1000000 ≤ day) (h2 : day ≤ 10000000) {Y M D : Int} (h : okDate Y M D) (e : dayOf Y M D = day) : Y = yP day ∧ M = mP day ∧ D = dP day := by
  obtain ⟨a, b⟩ := abs_date day h1 h2
  exact date_uniq h b (e.trans (dateIs_iff.1 a))
theorem year_mono {a b : Int} (h1 : -1000000 ≤ a) (h2 : b ≤ 10000000) (h : a ≤ b) : yP a ≤ yP b := by
  obtain ⟨p, q⟩ := abs_date a h1 (by omega)
  obtain ⟨p', q'⟩ := abs_date b (by omega) h2
  have x := (dayOf_year q).1
  have y := (dayOf_year q').2
  rw [← dateIs_iff.1 p] at x
  rw [← dateIs_iff.1 p'] at y
  rcases Int.lt_or_le (yP b) (yP a) with g | g
  · have := ys_mono (show yP b + 1 ≤ yP a by omega)
    omega
  · exact g
/-- The day after a day: the next of the same month, or the first of the next month, or of the next year. -/
theorem day_next {day : Int} (h1 : -1000000 ≤ day) (h2 : day < 10000000) :
    (dP day < md (yP day) (mP day) ∧ yP (day + 1) = yP day ∧ mP (day + 1) = mP day ∧ dP (day + 1) = dP day + 1) ∨
    (dP day = md (yP day) (mP day) ∧ mP day < 12 ∧ yP (day + 1) = yP day ∧ mP (day + 1) = mP day + 1 ∧ dP (day + 1) = 1) ∨
    (dP day = md (yP day) (mP day) ∧ mP day = 12 ∧ yP (day + 1) = yP day + 1 ∧ mP (day + 1) = 1 ∧ dP (day + 1) = 1) := by
  obtain ⟨p, q⟩ := abs_date day h1 (by omega)
  obtain ⟨c1, c2, c3, c4⟩ := q
  rw [dateIs_iff] at p
  by_cases hd : dP day < md (yP day) (mP day)
  · have ok : okDate (yP day) (mP day) (dP day + 1) := ⟨c1, c2, by omega, by omega⟩
    have e : dayOf (yP day) (mP day) (dP day + 1) = day + 1 := by
      have : dayOf (yP day) (mP day) (dP day + 1) = dayOf (yP day) (mP day) (dP day) + 1 := by unfold dayOf; omega
      omega
    obtain ⟨x, y, z⟩ := date_of (by omega) (by omega) ok e
    exact .inl ⟨hd, x.symm, y.symm, z.symm⟩
  · have hd' : dP day = md (yP day) (mP day) := by omega
    by_cases hm : mP day < 12
    · have ok : okDate (yP day) (mP day + 1) 1 := ⟨by omega, by omega, by omega, by have := (md_pos (yP day) (mP day + 1)).1; omega⟩
      have e : dayOf (yP day) (mP day + 1) 1 = day + 1 := by
        have a := msum_month (yP day) (mP day) c1
        have : dayOf (yP day) (mP day + 1) 1 = dayOf (yP day) (mP day) (dP day) + 1 := by
          unfold dayOf
          rw [show mP day + 1 - 1 = mP day by omega, a, hd']
          omega
        omega
      obtain ⟨x, y, z⟩ := date_of (by omega) (by omega) ok e
      exact .inr (.inl ⟨hd', hm, x.symm, y.symm, z.symm⟩)
    · have hm' : mP day = 12 := by omega
      have ok : okDate (yP day + 1) 1 1 := ⟨by omega, by omega, by omega, by have := (md_pos (yP day + 1) 1).1; omega⟩
      have e : dayOf (yP day + 1) 1 1 = day + 1 := by
        obtain ⟨s0, s1, s2, s3, s4, s5, s6, s7, s8, s9, s10, s11, s12⟩ := msum_val (yP day)
        have v := (md_val (yP day)).2.2.2.2.2.2.2.2.2.2.2
        have y := ys_next (yP day)
        have t0 : msum (yP day + 1) ((1 : Int) - 1).toNat = 0 := rfl
        have : dayOf (yP day + 1) 1 1 = dayOf (yP day) (mP day) (dP day) + 1 := by
          unfold dayOf
          rw [t0, hd', hm', show ((12 : Int) - 1).toNat = 11 from rfl, s11, v]
          omega
        omega
      obtain ⟨x, y, z⟩ := date_of (by omega) (by omega) ok e
      exact .inr (.inr ⟨hd', hm', x.symm, y.symm, z.symm⟩)

/-- The day of a date by the program's formula: years from March on. -/
theorem abs_days (Y M D : Int) (hm1 : 1 ≤ M) (hm2 : M ≤ 12) (hY1 : -100000 ≤ Y) (hY2 : Y ≤ 100000) (hD1 : 1 ≤ D) (hD2 : D ≤ 40) (j m y : Nat) (hj : j = if M < 3 then 1 else 0) (hm : (m : Int) = M + 12 * j) (hy : (y : Int) = Y - j + 292277022400) :
    ((146097 * (y / 100) / 4 + 1461 * (y % 100) / 4 + cumM m : Nat) : Int) + D - 1 = dayOf Y M D + 106751991073400 := by
  obtain ⟨C, hC⟩ : ∃ C, y / 100 = C := ⟨_, rfl⟩
  obtain ⟨cy, hcy⟩ : ∃ cy, y % 100 = cy := ⟨_, rfl⟩
  rw [hC, hcy]
  have e1 : 146097 * C / 4 = 36524 * C + C / 4 := by omega
  have e2 : 1461 * cy / 4 = 365 * cy + cy / 4 := by omega
  rw [e1, e2]
  obtain ⟨N, hN⟩ : ∃ N : Int, 100 * (C : Int) - 292277022400 + cy = N := ⟨_, rfl⟩
  have n1 : N / 4 = 25 * C + (cy / 4 : Nat) - 73069255600 := by omega
  have n2 : N / 100 = C - 2922770224 := by omega
  have n3 : N / 400 = (C / 4 : Nat) - 730692556 := by omega
  have y0 := ys_lp N
  have y1 := ys_next N
  have ny : Y = N + j := by omega
  subst ny
  have key : ((36524 * C + C / 4 + (365 * cy + cy / 4) : Nat) : Int) = 365 * N + N / 4 - N / 100 + N / 400 - 719527 + 59 + 106751991073400 := by
    rw [n1, n2, n3]
    omega
  obtain ⟨A, hA⟩ : ∃ A, 36524 * C + C / 4 + (365 * cy + cy / 4) = A := ⟨_, rfl⟩
  rw [hA] at key ⊢
  obtain ⟨G, hG⟩ : ∃ G, 365 * N + N / 4 - N / 100 + N / 400 - 719527 = G := ⟨_, rfl⟩
  rw [hG] at key y0
  clear hG hA n1 n2 n3 hN hC hcy e1 e2 hy hY1 hY2
  rcases (by omega : M = 1 ∨ M = 2 ∨ M = 3 ∨ M = 4 ∨ M = 5 ∨ M = 6 ∨ M = 7 ∨ M = 8 ∨ M = 9 ∨ M = 10 ∨ M = 11 ∨ M = 12) with rfl | rfl | rfl | rfl | rfl | rfl | rfl | rfl | rfl | rfl | rfl | rfl
  · obtain rfl : j = 1 := by rw [hj]; rfl
    obtain rfl : m = 13 := by omega
    obtain ⟨s0, s1, s2, s3, s4, s5, s6, s7, s8, s9, s10, s11, s12⟩ := msum_val (N + (1 : Nat))
    have hc : cumM 13 = 306 := by decide
    have eN : N + ((1 : Nat) : Int) = N + 1 := by omega
    unfold dayOf
    rw [hc, show ((1 : Int) - 1).toNat = 0 from rfl, s0]
    rw [eN]
    omega
  · obtain rfl : j = 1 := by rw [hj]; rfl
    obtain rfl : m = 14 := by omega
    obtain ⟨s0, s1, s2, s3, s4, s5, s6, s7, s8, s9, s10, s11, s12⟩ := msum_val (N + (1 : Nat))
    have hc : cumM 14 = 337 := by decide
    have eN : N + ((1 : Nat) : Int) = N + 1 := by omega
    unfold dayOf
    rw [hc, show ((2 : Int) - 1).toNat = 1 from rfl, s1]
    rw [eN]
    omega
  · obtain rfl : j = 0 := by rw [hj]; rfl
    obtain rfl : m = 3 := by omega
    obtain ⟨s0, s1, s2, s3, s4, s5, s6, s7, s8, s9, s10, s11, s12⟩ := msum_val (N + (0 : Nat))
    have hc : cumM 3 = 0 := by decide
    have eN : N + ((0 : Nat) : Int) = N := by omega
    unfold dayOf
    rw [hc, show ((3 : Int) - 1).toNat = 2 from rfl, s2]
    rw [eN]
    omega
  · obtain rfl : j = 0 := by rw [hj]; rfl
    obtain rfl : m = 4 := by omega
    obtain ⟨s0, s1, s2, s3, s4, s5, s6, s7, s8, s9, s10, s11, s12⟩ := msum_val (N + (0 : Nat))
    have hc : cumM 4 = 31 := by decide
    have eN : N + ((0 : Nat) : Int) = N := by omega
    unfold dayOf
    rw [hc, show ((4 : Int) - 1).toNat = 3 from rfl, s3]
    rw [eN]
    omega
  · obtain rfl : j = 0 := by rw [hj]; rfl
    obtain rfl : m = 5 := by omega
    obtain ⟨s0, s1, s2, s3, s4, s5, s6, s7, s8, s9, s10, s11, s12⟩ := msum_val (N + (0 : Nat))
    have hc : cumM 5 = 61 := by decide
    have eN : N + ((0 : Nat) : Int) = N := by omega
    unfold dayOf
    rw [hc, show ((5 : Int) - 1).toNat = 4 from rfl, s4]
    rw [eN]
    omega
  · obtain rfl : j = 0 := by rw [hj]; rfl
    obtain rfl : m = 6 := by omega
    obtain ⟨s0, s1, s2, s3, s4, s5, s6, s7, s8, s9, s10, s11, s12⟩ := msum_val (N + (0 : Nat))
    have hc : cumM 6 = 92 := by decide
    have eN : N + ((0 : Nat) : Int) = N := by omega
    unfold dayOf
    rw [hc, show ((6 : Int) - 1).toNat = 5 from rfl, s5]
    rw [eN]
    omega
  · obtain rfl : j = 0 := by rw [hj]; rfl
    obtain rfl : m = 7 := by omega
    obtain ⟨s0, s1, s2, s3, s4, s5, s6, s7, s8, s9, s10, s11, s12⟩ := msum_val (N + (0 : Nat))
    have hc : cumM 7 = 122 := by decide
    have eN : N + ((0 : Nat) : Int) = N := by omega
    unfold dayOf
    rw [hc, show ((7 : Int) - 1).toNat = 6 from rfl, s6]
    rw [eN]
    omega
  · obtain rfl : j = 0 := by rw [hj]; rfl
    obtain rfl : m = 8 := by omega
    obtain ⟨s0, s1, s2, s3, s4, s5, s6, s7, s8, s9, s10, s11, s12⟩ := msum_val (N + (0 : Nat))
    have hc : cumM 8 = 153 := by decide
    have eN : N + ((0 : Nat) : Int) = N := by omega
    unfold dayOf
    rw [hc, show ((8 : Int) - 1).toNat = 7 from rfl, s7]
    rw [eN]
    omega
  · obtain rfl : j = 0 := by rw [hj]; rfl
    obtain rfl : m = 9 := by omega
    obtain ⟨s0, s1, s2, s3, s4, s5, s6, s7, s8, s9, s10, s11, s12⟩ := msum_val (N + (0 : Nat))
    have hc : cumM 9 = 184 := by decide
    have eN : N + ((0 : Nat) : Int) = N := by omega
    unfold dayOf
    rw [hc, show ((9 : Int) - 1).toNat = 8 from rfl, s8]
    rw [eN]
    omega
  · obtain rfl : j = 0 := by rw [hj]; rfl
    obtain rfl : m = 10 := by omega
    obtain ⟨s0, s1, s2, s3, s4, s5, s6, s7, s8, s9, s10, s11, s12⟩ := msum_val (N + (0 : Nat))
    have hc : cumM 10 = 214 := by decide
    have eN : N + ((0 : Nat) : Int) = N := by omega
    unfold dayOf
    rw [hc, show ((10 : Int) - 1).toNat = 9 from rfl, s9]
    rw [eN]
    omega
  · obtain rfl : j = 0 := by rw [hj]; rfl
    obtain rfl : m = 11 := by omega
    obtain ⟨s0, s1, s2, s3, s4, s5, s6, s7, s8, s9, s10, s11, s12⟩ := msum_val (N + (0 : Nat))
    have hc : cumM 11 = 245 := by decide
    have eN : N + ((0 : Nat) : Int) = N := by omega
    unfold dayOf
    rw [hc, show ((11 : Int) - 1).toNat = 10 from rfl, s10]
    rw [eN]
    omega
  · obtain rfl : j = 0 := by rw [hj]; rfl
    obtain rfl : m = 12 := by omega
    obtain ⟨s0, s1, s2, s3, s4, s5, s6, s7, s8, s9, s10, s11, s12⟩ := msum_val (N + (0 : Nat))
    have hc : cumM 12 = 275 := by decide
    have eN : N + ((0 : Nat) : Int) = N := by omega
    unfold dayOf
    rw [hc, show ((12 : Int) - 1).toNat = 11 from rfl, s11]
    rw [eN]
    omega
end Go.Proofs.YtjbafphoemibaaaGreatDoor
