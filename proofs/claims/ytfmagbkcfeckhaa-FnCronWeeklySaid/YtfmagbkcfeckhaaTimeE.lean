/- Dates and times of day of moments, and the days of dates, as the program's package reckons them. Walked. -/
import Derived.Test.YtfmagbkcfeckhaaTimeD
set_option linter.unusedVariables false
set_option linter.unusedSimpArgs false
namespace Go.Proofs.Ytfmagbkcfeckhaa
open Go.RowKit

theorem adate_any (day : Int) (w : World) (h1 : absD day < 1000000000000000000) (h2 : 2922000000 ≤ (4 * absD day + 3) / 146097) (h3 : (4 * absD day + 3) / 146097 ≤ 3000000000) :
    Calls Try.prog 122 #[.int .u64 (absD day)] w fun e w' => e = .returned (.tuple #[.int .i64 (yP day), .int .i64 (mP day), .int .i64 (dP day)]) ∧ w = w' := by
  have CS := hid (fun w => asplit_any (absD day) w h1)
  have yb := ydN_lt (absD day)
  have CJ := hid (fun w => jf_any (ydN (absD day)) w yb)
  have CY := hid (fun w => cyear_any ((4 * absD day + 3) / 146097) (cyN (absD day)) (jfN (absD day)) (yP day) w h3 h2 (cyN_le _) (by unfold jfN; split <;> omega) rfl)
  have CT := hid (fun w => ysplit_any (ydN (absD day)) w (by omega))
  have CM := hid (fun w => amonth_any (moN (ydN (absD day))) (jfN (absD day)) (mP day) w (moN_le _ yb) (by unfold jfN; split <;> omega) rfl)
  obtain ⟨y, hy⟩ : ∃ y, ydN (absD day) = y := ⟨_, rfl⟩
  obtain ⟨j, hj⟩ : ∃ j, jfN (absD day) = j := ⟨_, rfl⟩
  have hj2 : (if 306 ≤ y then 1 else 0 : Nat) = j := by rw [← hj, ← hy]; rfl
  obtain ⟨C, hC⟩ : ∃ C, (4 * absD day + 3) / 146097 = C := ⟨_, rfl⟩
  obtain ⟨cy, hcy⟩ : ∃ cy, cyN (absD day) = cy := ⟨_, rfl⟩
  obtain ⟨mo, hmo⟩ : ∃ mo, moN (ydN (absD day)) = mo := ⟨_, rfl⟩
  obtain ⟨dm, hdm⟩ : ∃ dm, mdN (ydN (absD day)) = dm := ⟨_, rfl⟩
  have hdp : dP day = (dm : Int) := by rw [← hdm]; rfl
  obtain ⟨d, hd⟩ : ∃ d, absD day = d := ⟨_, rfl⟩
  obtain ⟨M, hM⟩ : ∃ M, mP day = M := ⟨_, rfl⟩
  obtain ⟨Y, hY⟩ : ∃ Y, yP day = Y := ⟨_, rfl⟩
  rw [hC, hcy, hy] at CS
  rw [hmo, hdm, hy] at CT
  rw [hy, hj2] at CJ
  rw [hC, hcy, hj, hY] at CY
  rw [hmo, hj, hM] at CM
  rw [hM, hY, hdp, hd]
  rw [hd] at CS
  clear yb hy hj hj2 hC hcy hd hM hY hmo hdm hdp h1 h2 h3
  go_enter Try.func122, Try.ntmps122
  go_wp2_with (first
    | (go_at_call 69; refine (CS.out _).mono ?_; rintro e' w3 ⟨rfl, rfl⟩)
    | (go_at_call 114; refine (CJ.out _).mono ?_; rintro e' w3 ⟨rfl, rfl⟩)
    | (go_at_call 70; refine (CT.out _).mono ?_; rintro e' w3 ⟨rfl, rfl⟩)
    | (go_at_call 115; refine (CY.out _).mono ?_; rintro e' w3 ⟨rfl, rfl⟩)
    | (go_at_call 116; refine (CM.out _).mono ?_; rintro e' w3 ⟨rfl, rfl⟩))
  go_returns
  exact ⟨rfl, rfl⟩

theorem dateF_any (n l off : Int) (p : Option Addr) (w : World) (h0 : 0 ≤ n) (h1 : n < 1073741824) (hl : near l) (ho : offOk off) (hp : Fx w p off) :
    Calls Try.prog 119 #[.agg (tcells n (eL off l) p)] w fun e' w' => e' = .returned (.tuple #[.int .i64 (yP (l / 86400)), .int .i64 (mP (l / 86400)), .int .i64 (dP (l / 86400))]) ∧ Below w.heap.size w w' := by
  have B := hid (show Below w.heap.size w (w.alloc (.cells (tcells n (eL off l) p) 62)) by go_grown)
  have CA := hid (absF_any n l off p _ h0 h1 hl ho (hp.below B.out))
  have CD := hid (fun w => adays_any (absL l) (absD (l / 86400)) w (absL_lt hl) (absL_day hl))
  have cb := cent_bounds hl
  have CT := hid (fun w => adate_any (l / 86400) w (absD_lt hl) cb.1 cb.2)
  obtain ⟨E, hE⟩ : ∃ E, eL off l = E := ⟨_, rfl⟩
  obtain ⟨day, hday⟩ : ∃ day, l / 86400 = day := ⟨_, rfl⟩
  rw [hday] at CD CT ⊢
  obtain ⟨d, hd⟩ : ∃ d, absD day = d := ⟨_, rfl⟩
  obtain ⟨A, hA⟩ : ∃ A, absL l = A := ⟨_, rfl⟩
  rw [hd] at CD CT
  rw [hA] at CA CD
  rw [hE] at CA B ⊢
  clear hE hp h0 h1 hl ho cb hday hd hA
  go_enter Try.func119, Try.ntmps119
  go_wp2_with (first
    | (go_at_call 67; refine CA.out.mono ?_; rintro e' w2 ⟨rfl, hb⟩; have HB := hid (bt B.out hb); clear hb)
    | (go_at_call 68; refine (CD.out _).mono ?_; rintro e' w3 ⟨rfl, rfl⟩)
    | (go_at_call 122; refine (CT.out _).mono ?_; rintro e' w3 ⟨rfl, rfl⟩))
  go_returns
  exact ⟨rfl, HB.out⟩

theorem aclock_any (A s h r m c : Nat) (w : World) (hA : A < 18446744073709551616) (hs : A % 86400 = s) (hh : s / 3600 = h) (hr : s % 3600 = r) (hm : r / 60 = m) (hc : r % 60 = c) :
    Calls Try.prog 123 #[.int .u64 A] w fun e w' => e = .returned (.tuple #[.int .i64 h, .int .i64 m, .int .i64 c]) ∧ w = w' := by
  have sb : s ≤ 86399 := by omega
  have hb : h ≤ 23 := by omega
  have rb : r ≤ 3599 := by omega
  have mb : m ≤ 59 := by omega
  have cb : c ≤ 59 := by omega
  have p1 : (h : Int) * 3600 + r = s := by omega
  have p2 : (m : Int) * 60 + c = r := by omega
  have t1 : (A : Int).tmod 86400 = (s : Int) := tmodN hs
  have t2 : (s : Int).tdiv 3600 = (h : Int) := tdivN hh
  have t3 : (r : Int).tdiv 60 = (m : Int) := tdivN hm
  clear hs hh hr hm hc hA
  have sb2 : s ≤ 18446744073709551615 := by omega
  have sb3 : s ≤ 9223372036854775807 := by omega
  have hb3 : h ≤ 9223372036854775807 := by omega
  have rb3 : r ≤ 9223372036854775807 := by omega
  have mb3 : m ≤ 9223372036854775807 := by omega
  have cb3 : c ≤ 9223372036854775807 := by omega
  obtain ⟨x, hx⟩ : ∃ x : Int, (h : Int) * 3600 = x := ⟨_, rfl⟩
  obtain ⟨y, hy⟩ : ∃ y : Int, (m : Int) * 60 = y := ⟨_, rfl⟩
  have x1 : IntKind.i64.wrap ((h : Int) * 3600) = x := by rw [hx]; exact IntWalk.i64_in _ (by omega)
  have x1' : wrap64 ((h : Int) * 3600) = x := by rw [hx]; exact IntWalk.wrap64_in _ (by omega)
  have y1 : IntKind.i64.wrap ((m : Int) * 60) = y := by rw [hy]; exact IntWalk.i64_in _ (by omega)
  have y1' : wrap64 ((m : Int) * 60) = y := by rw [hy]; exact IntWalk.wrap64_in _ (by omega)
  have x2 : (s : Int) - x = r := by omega
  have y2 : (r : Int) - y = c := by omega
  clear p1 p2 hx hy sb hb rb mb cb
  have w1 := wv sb2
  have w2 := wi sb3
  have w2' := wj sb3
  have w3 := wi hb3
  have w3' := wj hb3
  have w4 := wi rb3
  have w4' := wj rb3
  have w5 := wi mb3
  have w5' := wj mb3
  have w6 := wi cb3
  have w6' := wj cb3
  clear sb2 sb3 hb3 rb3 mb3 cb3
  go_enter Try.func123, Try.ntmps123
  go_wp2
  go_returns
  exact ⟨rfl, rfl⟩

theorem clockF_any (n l off : Int) (p : Option Addr) (h m c : Nat) (w : World) (h0 : 0 ≤ n) (h1 : n < 1073741824) (hl : near l) (ho : offOk off) (hp : Fx w p off) (hh : l % 86400 / 3600 = h) (hm : l % 3600 / 60 = m) (hc : l % 60 = c) :
    Calls Try.prog 120 #[.agg (tcells n (eL off l) p)] w fun e' w' => e' = .returned (.tuple #[.int .i64 h, .int .i64 m, .int .i64 c]) ∧ Below w.heap.size w w' := by
  have B := hid (show Below w.heap.size w (w.alloc (.cells (tcells n (eL off l) p) 62)) by go_grown)
  have CA := hid (absF_any n l off p _ h0 h1 hl ho (hp.below B.out))
  have hL := absL_int hl
  have hlt := absL_lt hl
  obtain ⟨l1, l2⟩ := hl
  obtain ⟨A, hA⟩ : ∃ A, absL l = A := ⟨_, rfl⟩
  rw [hA] at CA hL hlt
  have CC := hid (fun w => aclock_any A (A % 86400) h (A % 86400 % 3600) m c w hlt rfl (by omega) rfl (by omega) (by omega))
  obtain ⟨E, hE⟩ : ∃ E, eL off l = E := ⟨_, rfl⟩
  rw [hE] at CA B ⊢
  clear hE hp h0 h1 ho hh hm hc hL hlt hA l1 l2
  go_enter Try.func120, Try.ntmps120
  go_wp2_with (first
    | (go_at_call 67; refine CA.out.mono ?_; rintro e' w2 ⟨rfl, hb⟩; have HB := hid (bt B.out hb); clear hb)
    | (go_at_call 123; refine (CC.out _).mono ?_; rintro e' w3 ⟨rfl, rfl⟩))
  go_returns
  exact ⟨rfl, HB.out⟩

theorem norm_same (hi lo base : Int) (w : World) (h0 : 0 ≤ lo) (h1 : lo < base) : Calls Try.prog 117 #[.int .i64 hi, .int .i64 lo, .int .i64 base] w fun e w' => e = .returned (.tuple #[.int .i64 hi, .int .i64 lo]) ∧ w = w' := by
  have u0 : ¬ lo < 0 := by omega
  have u1 : ¬ base ≤ lo := by omega
  go_enter Try.func117, Try.ntmps117
  go_wp2
  go_returns
  exact ⟨rfl, rfl⟩
theorem norm_12 (hi : Int) (w : World) (h0 : -1000000 ≤ hi) (h1 : hi ≤ 1000000) : Calls Try.prog 117 #[.int .i64 hi, .int .i64 12, .int .i64 12] w fun e w' => e = .returned (.tuple #[.int .i64 (hi + 1), .int .i64 0]) ∧ w = w' := by
  have u : IntKind.i64.wrap (hi + 1) = hi + 1 := IntWalk.i64_in _ (by omega)
  have u' : wrap64 (hi + 1) = hi + 1 := IntWalk.wrap64_in _ (by omega)
  go_enter Try.func117, Try.ntmps117
  go_wp2
  go_returns
  exact ⟨rfl, rfl⟩
end Go.Proofs.Ytfmagbkcfeckhaa
