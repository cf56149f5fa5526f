/- The reference's calendar: quotients rounded down, leap years, the days of months and years, the date of a day. Walked; of a date the one equation that gives the day back. -/
import Derived.Test.YtjbafphoemibaaaGreatDoorKit
import Derived.IntWalk
import Derived.LoopTactic
import Derived.Deep.RegionWith
import Derived.Deep.MidRow
set_option linter.unusedVariables false
set_option linter.unusedSimpArgs false
namespace Go.Proofs.YtjbafphoemibaaaGreatDoor
open Go.RowKit

theorem tdiv_neg (a b : Int) (h : a < 0) : a.tdiv b = -((-a) / b) := by
  have h1 := Int.tdiv_eq_ediv_of_nonneg (a := -a) (b := b) (by omega)
  rw [Int.neg_tdiv] at h1
  omega
theorem tmod_neg (a b : Int) (h : a < 0) : a.tmod b = -((-a) % b) := by
  have h1 := Int.tmod_eq_emod_of_nonneg (a := -a) (b := b) (by omega)
  rw [Int.neg_tmod] at h1
  omega

theorem fd_4 (a : Int) (w : World) (h1 : -4611686018427387904 ≤ a) (h2 : a ≤ 4611686018427387904) : Calls Tryz.prog 28 #[.int .i64 a, .int .i64 4] w fun e w' => e = .returned (.int .i64 (a / 4)) ∧ w = w' := by
  obtain ⟨x, hx⟩ : ∃ x, a / 4 = x := ⟨_, rfl⟩
  obtain ⟨y, hy⟩ : ∃ y, a % 4 = y := ⟨_, rfl⟩
  rw [hx]
  by_cases h0 : 0 ≤ a
  · have q : a.tdiv 4 = x := by rw [Int.tdiv_eq_ediv_of_nonneg h0]; exact hx
    have r : a.tmod 4 = y := by rw [Int.tmod_eq_emod_of_nonneg h0]; exact hy
    have y0 : ¬ y < 0 := by omega
    have x1 : -4611686018427387904 ≤ x := by omega
    have x2 : x ≤ 4611686018427387904 := by omega
    have e5 : wrap64 x = x := by unfold wrap64; omega
    go_enter Tryz.func28, Tryz.ntmps28
    go_wp2
    go_ret
    exact ⟨rfl, rfl⟩
  · by_cases hz : y = 0
    · have q : a.tdiv 4 = x := by rw [tdiv_neg _ _ (by omega)]; omega
      have r : a.tmod 4 = 0 := by rw [tmod_neg _ _ (by omega)]; omega
      have x1 : -4611686018427387904 ≤ x := by omega
      have x2 : x ≤ 4611686018427387904 := by omega
      have e5 : wrap64 x = x := by unfold wrap64; omega
      clear hx hy h0
      go_enter Tryz.func28, Tryz.ntmps28
      go_wp2
      go_ret
      exact ⟨rfl, rfl⟩
    · obtain ⟨z, hz1⟩ : ∃ z, y - 4 = z := ⟨_, rfl⟩
      obtain ⟨u, hu⟩ : ∃ u, x + 1 = u := ⟨_, rfl⟩
      have q : a.tdiv 4 = u := by rw [tdiv_neg _ _ (by omega)]; omega
      have r : a.tmod 4 = z := by rw [tmod_neg _ _ (by omega)]; omega
      have z0 : z < 0 := by omega
      have x1 : -4611686018427387904 ≤ x := by omega
      have x2 : x ≤ 4611686018427387904 := by omega
      have e5 : wrap64 u = u := by unfold wrap64; omega
      have e6 : wrap64 (u - 1) = x := by unfold wrap64; omega
      have e7 : IntKind.i64.wrap (u - 1) = x := by rw [IntWalk.i64_in _ (by omega)]; omega
      clear hx hy h0 hz hz1 hu
      go_enter Tryz.func28, Tryz.ntmps28
      go_wp2
      go_ret
      exact ⟨rfl, rfl⟩

theorem fd_100 (a : Int) (w : World) (h1 : -4611686018427387904 ≤ a) (h2 : a ≤ 4611686018427387904) : Calls Tryz.prog 28 #[.int .i64 a, .int .i64 100] w fun e w' => e = .returned (.int .i64 (a / 100)) ∧ w = w' := by
  obtain ⟨x, hx⟩ : ∃ x, a / 100 = x := ⟨_, rfl⟩
  obtain ⟨y, hy⟩ : ∃ y, a % 100 = y := ⟨_, rfl⟩
  rw [hx]
  by_cases h0 : 0 ≤ a
  · have q : a.tdiv 100 = x := by rw [Int.tdiv_eq_ediv_of_nonneg h0]; exact hx
    have r : a.tmod 100 = y := by rw [Int.tmod_eq_emod_of_nonneg h0]; exact hy
    have y0 : ¬ y < 0 := by omega
    have x1 : -4611686018427387904 ≤ x := by omega
    have x2 : x ≤ 4611686018427387904 := by omega
    have e5 : wrap64 x = x := by unfold wrap64; omega
    go_enter Tryz.func28, Tryz.ntmps28
    go_wp2
    go_ret
    exact ⟨rfl, rfl⟩
  · by_cases hz : y = 0
    · have q : a.tdiv 100 = x := by rw [tdiv_neg _ _ (by omega)]; omega
      have r : a.tmod 100 = 0 := by rw [tmod_neg _ _ (by omega)]; omega
      have x1 : -4611686018427387904 ≤ x := by omega
      have x2 : x ≤ 4611686018427387904 := by omega
      have e5 : wrap64 x = x := by unfold wrap64; omega
      clear hx hy h0
      go_enter Tryz.func28, Tryz.ntmps28
      go_wp2
      go_ret
      exact ⟨rfl, rfl⟩
    · obtain ⟨z, hz1⟩ : ∃ z, y - 100 = z := ⟨_, rfl⟩
      obtain ⟨u, hu⟩ : ∃ u, x + 1 = u := ⟨_, rfl⟩
      have q : a.tdiv 100 = u := by rw [tdiv_neg _ _ (by omega)]; omega
      have r : a.tmod 100 = z := by rw [tmod_neg _ _ (by omega)]; omega
      have z0 : z < 0 := by omega
      have x1 : -4611686018427387904 ≤ x := by omega
      have x2 : x ≤ 4611686018427387904 := by omega
      have e5 : wrap64 u = u := by unfold wrap64; omega
      have e6 : wrap64 (u - 1) = x := by unfold wrap64; omega
      have e7 : IntKind.i64.wrap (u - 1) = x := by rw [IntWalk.i64_in _ (by omega)]; omega
      clear hx hy h0 hz hz1 hu
      go_enter Tryz.func28, Tryz.ntmps28
      go_wp2
      go_ret
      exact ⟨rfl, rfl⟩

theorem fd_400 (a : Int) (w : World) (h1 : -4611686018427387904 ≤ a) (h2 : a ≤ 4611686018427387904) : Calls Tryz.prog 28 #[.int .i64 a, .int .i64 400] w fun e w' => e = .returned (.int .i64 (a / 400)) ∧ w = w' := by
  obtain ⟨x, hx⟩ : ∃ x, a / 400 = x := ⟨_, rfl⟩
  obtain ⟨y, hy⟩ : ∃ y, a % 400 = y := ⟨_, rfl⟩
  rw [hx]
  by_cases h0 : 0 ≤ a
  · have q : a.tdiv 400 = x := by rw [Int.tdiv_eq_ediv_of_nonneg h0]; exact hx
    have r : a.tmod 400 = y := by rw [Int.tmod_eq_emod_of_nonneg h0]; exact hy
    have y0 : ¬ y < 0 := by omega
    have x1 : -4611686018427387904 ≤ x := by omega
    have x2 : x ≤ 4611686018427387904 := by omega
    have e5 : wrap64 x = x := by unfold wrap64; omega
    go_enter Tryz.func28, Tryz.ntmps28
    go_wp2
    go_ret
    exact ⟨rfl, rfl⟩
  · by_cases hz : y = 0
    · have q : a.tdiv 400 = x := by rw [tdiv_neg _ _ (by omega)]; omega
      have r : a.tmod 400 = 0 := by rw [tmod_neg _ _ (by omega)]; omega
      have x1 : -4611686018427387904 ≤ x := by omega
      have x2 : x ≤ 4611686018427387904 := by omega
      have e5 : wrap64 x = x := by unfold wrap64; omega
      clear hx hy h0
      go_enter Tryz.func28, Tryz.ntmps28
      go_wp2
      go_ret
      exact ⟨rfl, rfl⟩
    · obtain ⟨z, hz1⟩ : ∃ z, y - 400 = z := ⟨_, rfl⟩
      obtain ⟨u, hu⟩ : ∃ u, x + 1 = u := ⟨_, rfl⟩
      have q : a.tdiv 400 = u := by rw [tdiv_neg _ _ (by omega)]; omega
      have r : a.tmod 400 = z := by rw [tmod_neg _ _ (by omega)]; omega
      have z0 : z < 0 := by omega
      have x1 : -4611686018427387904 ≤ x := by omega
      have x2 : x ≤ 4611686018427387904 := by omega
      have e5 : wrap64 u = u := by unfold wrap64; omega
      have e6 : wrap64 (u - 1) = x := by unfold wrap64; omega
      have e7 : IntKind.i64.wrap (u - 1) = x := by rw [IntWalk.i64_in _ (by omega)]; omega
      clear hx hy h0 hz hz1 hu
      go_enter Tryz.func28, Tryz.ntmps28
      go_wp2
      go_ret
      exact ⟨rfl, rfl⟩

theorem fd_365 (a : Int) (w : World) (h1 : -4611686018427387904 ≤ a) (h2 : a ≤ 4611686018427387904) : Calls Tryz.prog 28 #[.int .i64 a, .int .i64 365] w fun e w' => e = .returned (.int .i64 (a / 365)) ∧ w = w' := by
  obtain ⟨x, hx⟩ : ∃ x, a / 365 = x := ⟨_, rfl⟩
  obtain ⟨y, hy⟩ : ∃ y, a % 365 = y := ⟨_, rfl⟩
  rw [hx]
  by_cases h0 : 0 ≤ a
  · have q : a.tdiv 365 = x := by rw [Int.tdiv_eq_ediv_of_nonneg h0]; exact hx
    have r : a.tmod 365 = y := by rw [Int.tmod_eq_emod_of_nonneg h0]; exact hy
    have y0 : ¬ y < 0 := by omega
    have x1 : -4611686018427387904 ≤ x := by omega
    have x2 : x ≤ 4611686018427387904 := by omega
    have e5 : wrap64 x = x := by unfold wrap64; omega
    go_enter Tryz.func28, Tryz.ntmps28
    go_wp2
    go_ret
    exact ⟨rfl, rfl⟩
  · by_cases hz : y = 0
    · have q : a.tdiv 365 = x := by rw [tdiv_neg _ _ (by omega)]; omega
      have r : a.tmod 365 = 0 := by rw [tmod_neg _ _ (by omega)]; omega
      have x1 : -4611686018427387904 ≤ x := by omega
      have x2 : x ≤ 4611686018427387904 := by omega
      have e5 : wrap64 x = x := by unfold wrap64; omega
      clear hx hy h0
      go_enter Tryz.func28, Tryz.ntmps28
      go_wp2
      go_ret
      exact ⟨rfl, rfl⟩
    · obtain ⟨z, hz1⟩ : ∃ z, y - 365 = z := ⟨_, rfl⟩
      obtain ⟨u, hu⟩ : ∃ u, x + 1 = u := ⟨_, rfl⟩
      have q : a.tdiv 365 = u := by rw [tdiv_neg _ _ (by omega)]; omega
      have r : a.tmod 365 = z := by rw [tmod_neg _ _ (by omega)]; omega
      have z0 : z < 0 := by omega
      have x1 : -4611686018427387904 ≤ x := by omega
      have x2 : x ≤ 4611686018427387904 := by omega
      have e5 : wrap64 u = u := by unfold wrap64; omega
      have e6 : wrap64 (u - 1) = x := by unfold wrap64; omega
      have e7 : IntKind.i64.wrap (u - 1) = x := by rw [IntWalk.i64_in _ (by omega)]; omega
      clear hx hy h0 hz hz1 hu
      go_enter Tryz.func28, Tryz.ntmps28
      go_wp2
      go_ret
      exact ⟨rfl, rfl⟩

theorem fd_366 (a : Int) (w : World) (h1 : -4611686018427387904 ≤ a) (h2 : a ≤ 4611686018427387904) : Calls Tryz.prog 28 #[.int .i64 a, .int .i64 366] w fun e w' => e = .returned (.int .i64 (a / 366)) ∧ w = w' := by
  obtain ⟨x, hx⟩ : ∃ x, a / 366 = x := ⟨_, rfl⟩
  obtain ⟨y, hy⟩ : ∃ y, a % 366 = y := ⟨_, rfl⟩
  rw [hx]
  by_cases h0 : 0 ≤ a
  · have q : a.tdiv 366 = x := by rw [Int.tdiv_eq_ediv_of_nonneg h0]; exact hx
    have r : a.tmod 366 = y := by rw [Int.tmod_eq_emod_of_nonneg h0]; exact hy
    have y0 : ¬ y < 0 := by omega
    have x1 : -4611686018427387904 ≤ x := by omega
    have x2 : x ≤ 4611686018427387904 := by omega
    have e5 : wrap64 x = x := by unfold wrap64; omega
    go_enter Tryz.func28, Tryz.ntmps28
    go_wp2
    go_ret
    exact ⟨rfl, rfl⟩
  · by_cases hz : y = 0
    · have q : a.tdiv 366 = x := by rw [tdiv_neg _ _ (by omega)]; omega
      have r : a.tmod 366 = 0 := by rw [tmod_neg _ _ (by omega)]; omega
      have x1 : -4611686018427387904 ≤ x := by omega
      have x2 : x ≤ 4611686018427387904 := by omega
      have e5 : wrap64 x = x := by unfold wrap64; omega
      clear hx hy h0
      go_enter Tryz.func28, Tryz.ntmps28
      go_wp2
      go_ret
      exact ⟨rfl, rfl⟩
    · obtain ⟨z, hz1⟩ : ∃ z, y - 366 = z := ⟨_, rfl⟩
      obtain ⟨u, hu⟩ : ∃ u, x + 1 = u := ⟨_, rfl⟩
      have q : a.tdiv 366 = u := by rw [tdiv_neg _ _ (by omega)]; omega
      have r : a.tmod 366 = z := by rw [tmod_neg _ _ (by omega)]; omega
      have z0 : z < 0 := by omega
      have x1 : -4611686018427387904 ≤ x := by omega
      have x2 : x ≤ 4611686018427387904 := by omega
      have e5 : wrap64 u = u := by unfold wrap64; omega
      have e6 : wrap64 (u - 1) = x := by unfold wrap64; omega
      have e7 : IntKind.i64.wrap (u - 1) = x := by rw [IntWalk.i64_in _ (by omega)]; omega
      clear hx hy h0 hz hz1 hu
      go_enter Tryz.func28, Tryz.ntmps28
      go_wp2
      go_ret
      exact ⟨rfl, rfl⟩

theorem fd_86400 (a : Int) (w : World) (h1 : -4611686018427387904 ≤ a) (h2 : a ≤ 4611686018427387904) : Calls Tryz.prog 28 #[.int .i64 a, .int .i64 86400] w fun e w' => e = .returned (.int .i64 (a / 86400)) ∧ w = w' := by
  obtain ⟨x, hx⟩ : ∃ x, a / 86400 = x := ⟨_, rfl⟩
  obtain ⟨y, hy⟩ : ∃ y, a % 86400 = y := ⟨_, rfl⟩
  rw [hx]
  by_cases h0 : 0 ≤ a
  · have q : a.tdiv 86400 = x := by rw [Int.tdiv_eq_ediv_of_nonneg h0]; exact hx
    have r : a.tmod 86400 = y := by rw [Int.tmod_eq_emod_of_nonneg h0]; exact hy
    have y0 : ¬ y < 0 := by omega
    have x1 : -4611686018427387904 ≤ x := by omega
    have x2 : x ≤ 4611686018427387904 := by omega
    have e5 : wrap64 x = x := by unfold wrap64; omega
    go_enter Tryz.func28, Tryz.ntmps28
    go_wp2
    go_ret
    exact ⟨rfl, rfl⟩
  · by_cases hz : y = 0
    · have q : a.tdiv 86400 = x := by rw [tdiv_neg _ _ (by omega)]; omega
      have r : a.tmod 86400 = 0 := by rw [tmod_neg _ _ (by omega)]; omega
      have x1 : -4611686018427387904 ≤ x := by omega
      have x2 : x ≤ 4611686018427387904 := by omega
      have e5 : wrap64 x = x := by unfold wrap64; omega
      clear hx hy h0
      go_enter Tryz.func28, Tryz.ntmps28
      go_wp2
      go_ret
      exact ⟨rfl, rfl⟩
    · obtain ⟨z, hz1⟩ : ∃ z, y - 86400 = z := ⟨_, rfl⟩
      obtain ⟨u, hu⟩ : ∃ u, x + 1 = u := ⟨_, rfl⟩
      have q : a.tdiv 86400 = u := by rw [tdiv_neg _ _ (by omega)]; omega
      have r : a.tmod 86400 = z := by rw [tmod_neg _ _ (by omega)]; omega
      have z0 : z < 0 := by omega
      have x1 : -4611686018427387904 ≤ x := by omega
      have x2 : x ≤ 4611686018427387904 := by omega
      have e5 : wrap64 u = u := by unfold wrap64; omega
      have e6 : wrap64 (u - 1) = x := by unfold wrap64; omega
      have e7 : IntKind.i64.wrap (u - 1) = x := by rw [IntWalk.i64_in _ (by omega)]; omega
      clear hx hy h0 hz hz1 hu
      go_enter Tryz.func28, Tryz.ntmps28
      go_wp2
      go_ret
      exact ⟨rfl, rfl⟩

theorem fd_7 (a : Int) (w : World) (h1 : -4611686018427387904 ≤ a) (h2 : a ≤ 4611686018427387904) : Calls Tryz.prog 28 #[.int .i64 a, .int .i64 7] w fun e w' => e = .returned (.int .i64 (a / 7)) ∧ w = w' := by
  obtain ⟨x, hx⟩ : ∃ x, a / 7 = x := ⟨_, rfl⟩
  obtain ⟨y, hy⟩ : ∃ y, a % 7 = y := ⟨_, rfl⟩
  rw [hx]
  by_cases h0 : 0 ≤ a
  · have q : a.tdiv 7 = x := by rw [Int.tdiv_eq_ediv_of_nonneg h0]; exact hx
    have r : a.tmod 7 = y := by rw [Int.tmod_eq_emod_of_nonneg h0]; exact hy
    have y0 : ¬ y < 0 := by omega
    have x1 : -4611686018427387904 ≤ x := by omega
    have x2 : x ≤ 4611686018427387904 := by omega
    have e5 : wrap64 x = x := by unfold wrap64; omega
    go_enter Tryz.func28, Tryz.ntmps28
    go_wp2
    go_ret
    exact ⟨rfl, rfl⟩
  · by_cases hz : y = 0
    · have q : a.tdiv 7 = x := by rw [tdiv_neg _ _ (by omega)]; omega
      have r : a.tmod 7 = 0 := by rw [tmod_neg _ _ (by omega)]; omega
      have x1 : -4611686018427387904 ≤ x := by omega
      have x2 : x ≤ 4611686018427387904 := by omega
      have e5 : wrap64 x = x := by unfold wrap64; omega
      clear hx hy h0
      go_enter Tryz.func28, Tryz.ntmps28
      go_wp2
      go_ret
      exact ⟨rfl, rfl⟩
    · obtain ⟨z, hz1⟩ : ∃ z, y - 7 = z := ⟨_, rfl⟩
      obtain ⟨u, hu⟩ : ∃ u, x + 1 = u := ⟨_, rfl⟩
      have q : a.tdiv 7 = u := by rw [tdiv_neg _ _ (by omega)]; omega
      have r : a.tmod 7 = z := by rw [tmod_neg _ _ (by omega)]; omega
      have z0 : z < 0 := by omega
      have x1 : -4611686018427387904 ≤ x := by omega
      have x2 : x ≤ 4611686018427387904 := by omega
      have e5 : wrap64 u = u := by unfold wrap64; omega
      have e6 : wrap64 (u - 1) = x := by unfold wrap64; omega
      have e7 : IntKind.i64.wrap (u - 1) = x := by rw [IntWalk.i64_in _ (by omega)]; omega
      clear hx hy h0 hz hz1 hu
      go_enter Tryz.func28, Tryz.ntmps28
      go_wp2
      go_ret
      exact ⟨rfl, rfl⟩

/-- A leap year, as the reference reckons. -/
def lp (y : Int) : Bool := (y.tmod 4 == 0) && ((y.tmod 100 != 0) || (y.tmod 400 == 0))
/-- How many days a month has. -/
def md (y m : Int) : Int := if m = 2 then (if lp y then 29 else 28) else if m = 4 ∨ m = 6 ∨ m = 9 ∨ m = 11 then 30 else 31
theorem md_pos (y m : Int) : 28 ≤ md y m ∧ md y m ≤ 31 := by
  unfold md
  split
  · split <;> omega
  · split <;> omega
/-- The days ahead of a year. -/
def ys (y : Int) : Int := 365 * (y - 1) + (y - 1) / 4 - (y - 1) / 100 + (y - 1) / 400 - 719162
end Go.Proofs.YtjbafphoemibaaaGreatDoor
