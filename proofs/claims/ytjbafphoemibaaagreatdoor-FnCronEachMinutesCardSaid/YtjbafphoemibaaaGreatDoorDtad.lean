/- The parts of a moment on the clocks of a location whose offset stays the same: year, month, day, day of the week, hour, minute, second. Walked. Dates and times of day of moments, and the days of dates, as the program's package reckons them. Walked. The absolute day of a date. Walked. -/
import Derived.Test.YtjbafphoemibaaaGreatDoorDays
import Derived.Test.YtjbafphoemibaaaGreatDoorGregB
set_option linter.unusedVariables false
set_option linter.unusedSimpArgs false
namespace Go.Proofs.YtjbafphoemibaaaGreatDoor
open Go.RowKit

/-- A location whose clocks are off seconds ahead of UTC all the time. -/
def Fx (w : World) (p : Option Addr) (off : Int) : Prop := ∀ s, -1000000000000 ≤ s → s ≤ 1000000000000 → At w p s off
theorem Fx.below {w w' : World} {p : Option Addr} {off : Int} (h : Fx w p off) (hb : Below w.heap.size w w') : Fx w' p off := fun s h1 h2 => (h s h1 h2).below hb
/-- A second of the clocks as a moment keeps it. -/
def eL (off l : Int) : Int := l - off + 62135596800
/-- What the statements reach. -/
def near (l : Int) : Prop := -80000000000 ≤ l ∧ l ≤ 400000000000
def offOk (off : Int) : Prop := -86400 ≤ off ∧ off ≤ 86400
/-- The absolute second. -/
def absL (l : Int) : Nat := (l + 9223372028741760000).toNat
theorem absL_int {l : Int} (h : near l) : ((absL l : Nat) : Int) = l + 9223372028741760000 := by
  obtain ⟨h1, h2⟩ := h
  unfold absL
  omega
theorem absL_lt {l : Int} (h : near l) : absL l < 18446744073709551616 := by
  have := absL_int h
  obtain ⟨h1, h2⟩ := h
  omega
theorem absL_day {l : Int} (h : near l) : absL l / 86400 = absD (l / 86400) := by
  have := absL_int h
  obtain ⟨h1, h2⟩ := h
  unfold absD
  omega
theorem absD_lt {l : Int} (h : near l) : absD (l / 86400) < 1000000000000000000 := by
  obtain ⟨h1, h2⟩ := h
  unfold absD
  omega
theorem near_day {l : Int} (h : near l) : -1000000 ≤ l / 86400 ∧ l / 86400 ≤ 5000000 := by
  obtain ⟨h1, h2⟩ := h
  omega

theorem absF_any (n l off : Int) (p : Option Addr) (w : World) (h0 : 0 ≤ n) (h1 : n < 1073741824) (hl : near l) (ho : offOk off) (hp : Fx w p off) :
    Calls Tryz.prog 128 #[.agg (tcells n (eL off l) p)] w fun e' w' => e' = .returned (.int .u64 (absL l)) ∧ Below w.heap.size w w' := by
  have hL := absL_int hl
  obtain ⟨l1, l2⟩ := hl
  obtain ⟨o1, o2⟩ := ho
  refine absSec_any n (eL off l) (l - off) off p (absL l) w h0 h1 ?_ (by omega) (by omega) (hp _ (by omega) (by omega)) (by omega)
  unfold eL
  omega

theorem jf_any (y : Nat) (w : World) (hy : y ≤ 366) : Calls Tryz.prog 133 #[.int .i64 y] w fun e w' => e = .returned (.int .i64 ((if 306 ≤ y then 1 else 0 : Nat) : Int)) ∧ w = w' := by
  by_cases h : 306 ≤ y
  · rw [if_pos h]
    have u : (306 : Int) ≤ (y : Int) := by omega
    go_enter Tryz.func133, Tryz.ntmps133
    go_wp2
    go_ret
    exact ⟨rfl, rfl⟩
  · rw [if_neg h]
    have u : ¬ (306 : Int) ≤ (y : Int) := by omega
    go_enter Tryz.func133, Tryz.ntmps133
    go_wp2
    go_ret
    exact ⟨rfl, rfl⟩

theorem cyear_any (C cy j : Nat) (r : Int) (w : World) (hC : C ≤ 3000000000) (hC0 : 2922000000 ≤ C) (hcy : cy ≤ 100000) (hj : j ≤ 1) (hr : 100 * (C : Int) - 292277022400 + cy + j = r) :
    Calls Tryz.prog 134 #[.int .u64 C, .int .i64 cy, .int .i64 j] w fun e w' => e = .returned (.int .i64 r) ∧ w = w' := by
  have m1 : IntKind.u64.wrap ((C : Int) * 100) = (C : Int) * 100 := IntWalk.u64_in _ (by omega)
  obtain ⟨x, hx⟩ : ∃ x, IntKind.u64.wrap ((C : Int) * 100 - 292277022400) = x := ⟨_, rfl⟩
  have hx' := hx
  rw [IntKind.wrap_u64] at hx'
  obtain ⟨y, hy⟩ : ∃ y : Int, 100 * (C : Int) - 292277022400 = y := ⟨_, rfl⟩
  have y1 : IntKind.i64.wrap x = y := by
    clear m1 hx
    rw [IntKind.wrap_i64]
    omega
  have y1' : wrap64 x = y := by unfold wrap64; rw [← y1, IntKind.wrap_i64]
  have yb : -100000000000 ≤ y ∧ y ≤ 100000000000 := by clear m1 hx hx' y1 y1'; omega
  obtain ⟨z, hz⟩ : ∃ z : Int, y + cy = z := ⟨_, rfl⟩
  have zb : -200000000000 ≤ z ∧ z ≤ 200000000000 := by clear m1 hx hx' y1 y1'; omega
  have z1 : IntKind.i64.wrap (y + (cy : Int)) = z := by rw [hz]; exact IntWalk.i64_in _ ⟨by clear m1 hx hx' y1 y1'; omega, by clear m1 hx hx' y1 y1'; omega⟩
  have z1' : wrap64 (y + (cy : Int)) = z := by unfold wrap64; rw [← z1, IntKind.wrap_i64]
  have r0 : z + (j : Int) = r := by clear m1 hx hx' y1 y1' z1 z1'; omega
  have r1 : IntKind.i64.wrap (z + (j : Int)) = r := by rw [r0]; exact IntWalk.i64_in _ ⟨by clear m1 hx hx' y1 y1' z1 z1'; omega, by clear m1 hx hx' y1 y1' z1 z1'; omega⟩
  have r1' : wrap64 (z + (j : Int)) = r := by unfold wrap64; rw [← r1, IntKind.wrap_i64]
  clear hx' hy hz r0 hr hC hC0 hcy hj yb zb
  go_enter Tryz.func134, Tryz.ntmps134
  go_wp2
  go_ret
  exact ⟨rfl, rfl⟩

theorem amonth_any (m j : Nat) (r : Int) (w : World) (hm : m ≤ 20) (hj : j ≤ 1) (hr : (m : Int) - 12 * j = r) :
    Calls Tryz.prog 135 #[.int .i64 m, .int .i64 j] w fun e w' => e = .returned (.int .i64 r) ∧ w = w' := by
  obtain ⟨x, hx⟩ : ∃ x : Int, (j : Int) * 12 = x := ⟨_, rfl⟩
  have x1 : IntKind.i64.wrap ((j : Int) * 12) = x := by rw [hx]; exact IntWalk.i64_in _ (by omega)
  have x1' : wrap64 ((j : Int) * 12) = x := by rw [hx]; exact IntWalk.wrap64_in _ (by omega)
  have r0 : (m : Int) - x = r := by omega
  have r1 : IntKind.i64.wrap ((m : Int) - x) = r := by rw [r0]; exact IntWalk.i64_in _ (by omega)
  have r1' : wrap64 ((m : Int) - x) = r := by rw [r0]; exact IntWalk.wrap64_in _ (by omega)
  clear hx r0 hr hm hj
  go_enter Tryz.func135, Tryz.ntmps135
  go_wp2
  go_ret
  exact ⟨rfl, rfl⟩

/-- The contracts that every part begins with. -/
theorem moN_le (y : Nat) (hy : y ≤ 366) : moN y ≤ 20 := by unfold moN; omega
theorem cent_bounds {l : Int} (h : near l) : 2922000000 ≤ (4 * absD (l / 86400) + 3) / 146097 ∧ (4 * absD (l / 86400) + 3) / 146097 ≤ 3000000000 := by
  obtain ⟨h1, h2⟩ := h
  unfold absD
  omega
theorem cyN_le (d : Nat) : cyN d ≤ 100000 := by
  have := cdN_lt d
  unfold cyN
  omega

theorem year_any (n l off : Int) (p : Option Addr) (w : World) (h0 : 0 ≤ n) (h1 : n < 1073741824) (hl : near l) (ho : offOk off) (hp : Fx w p off) :
    Calls Tryz.prog 119 #[.agg (tcells n (eL off l) p)] w fun e' w' => e' = .returned (.int .i64 (yP (l / 86400))) ∧ Below w.heap.size w w' := by
  have B := hid (show Below w.heap.size w (w.alloc (.cells (tcells n (eL off l) p) 52)) by go_grown)
  have CA := hid (absF_any n l off p _ h0 h1 hl ho (hp.below B.out))
  have CD := hid (fun w => adays_any (absL l) (absD (l / 86400)) w (absL_lt hl) (absL_day hl))
  have CS := hid (fun w => asplit_any (absD (l / 86400)) w (absD_lt hl))
  have yb := ydN_lt (absD (l / 86400))
  have CJ := hid (fun w => jf_any (ydN (absD (l / 86400))) w yb)
  have cb := cent_bounds hl
  have CY := hid (fun w => cyear_any ((4 * absD (l / 86400) + 3) / 146097) (cyN (absD (l / 86400))) (jfN (absD (l / 86400))) (yP (l / 86400)) w cb.2 cb.1 (cyN_le _) (by unfold jfN; split <;> omega) rfl)
  obtain ⟨y, hy⟩ : ∃ y, ydN (absD (l / 86400)) = y := ⟨_, rfl⟩
  obtain ⟨j, hj⟩ : ∃ j, jfN (absD (l / 86400)) = j := ⟨_, rfl⟩
  have hj2 : (if 306 ≤ y then 1 else 0 : Nat) = j := by rw [← hj, ← hy]; rfl
  obtain ⟨C, hC⟩ : ∃ C, (4 * absD (l / 86400) + 3) / 146097 = C := ⟨_, rfl⟩
  obtain ⟨cy, hcy⟩ : ∃ cy, cyN (absD (l / 86400)) = cy := ⟨_, rfl⟩
  obtain ⟨d, hd⟩ : ∃ d, absD (l / 86400) = d := ⟨_, rfl⟩
  obtain ⟨Y, hY⟩ : ∃ Y, yP (l / 86400) = Y := ⟨_, rfl⟩
  obtain ⟨A, hA⟩ : ∃ A, absL l = A := ⟨_, rfl⟩
  rw [hC, hcy, hy] at CS
  rw [hy, hj2] at CJ
  rw [hC, hcy, hj, hY] at CY
  rw [hY]
  rw [hd] at CS CD
  rw [hA] at CD CA
  clear yb cb hy hj hj2 hC hcy hd hY hA
  obtain ⟨E, hE⟩ : ∃ E, eL off l = E := ⟨_, rfl⟩
  rw [hE] at CA B ⊢
  clear hE hp h0 h1 hl ho
  go_enter Tryz.func119, Tryz.ntmps119
  go_wp2_with (first
    | (go_at_call 128; refine CA.out.mono ?_; rintro e' w2 ⟨rfl, hb⟩; have HB := hid (bt B.out hb); clear hb)
    | (go_at_call 129; refine (CD.out _).mono ?_; rintro e' w3 ⟨rfl, rfl⟩)
    | (go_at_call 130; refine (CS.out _).mono ?_; rintro e' w3 ⟨rfl, rfl⟩)
    | (go_at_call 133; refine (CJ.out _).mono ?_; rintro e' w3 ⟨rfl, rfl⟩)
    | (go_at_call 134; refine (CY.out _).mono ?_; rintro e' w3 ⟨rfl, rfl⟩))
  go_ret
  exact ⟨rfl, HB.out⟩

theorem month_any (n l off : Int) (p : Option Addr) (w : World) (h0 : 0 ≤ n) (h1 : n < 1073741824) (hl : near l) (ho : offOk off) (hp : Fx w p off) :
    Calls Tryz.prog 120 #[.agg (tcells n (eL off l) p)] w fun e' w' => e' = .returned (.int .i64 (mP (l / 86400))) ∧ Below w.heap.size w w' := by
  have B := hid (show Below w.heap.size w (w.alloc (.cells (tcells n (eL off l) p) 52)) by go_grown)
  have CA := hid (absF_any n l off p _ h0 h1 hl ho (hp.below B.out))
  have CD := hid (fun w => adays_any (absL l) (absD (l / 86400)) w (absL_lt hl) (absL_day hl))
  have CS := hid (fun w => asplit_any (absD (l / 86400)) w (absD_lt hl))
  have yb := ydN_lt (absD (l / 86400))
  have CJ := hid (fun w => jf_any (ydN (absD (l / 86400))) w yb)
  have CT := hid (fun w => ysplit_any (ydN (absD (l / 86400))) w (by omega))
  have CM := hid (fun w => amonth_any (moN (ydN (absD (l / 86400)))) (jfN (absD (l / 86400))) (mP (l / 86400)) w (moN_le _ yb) (by unfold jfN; split <;> omega) rfl)
  obtain ⟨y, hy⟩ : ∃ y, ydN (absD (l / 86400)) = y := ⟨_, rfl⟩
  obtain ⟨j, hj⟩ : ∃ j, jfN (absD (l / 86400)) = j := ⟨_, rfl⟩
  have hj2 : (if 306 ≤ y then 1 else 0 : Nat) = j := by rw [← hj, ← hy]; rfl
  obtain ⟨C, hC⟩ : ∃ C, (4 * absD (l / 86400) + 3) / 146097 = C := ⟨_, rfl⟩
  obtain ⟨cy, hcy⟩ : ∃ cy, cyN (absD (l / 86400)) = cy := ⟨_, rfl⟩
  obtain ⟨mo, hmo⟩ : ∃ mo, moN (ydN (absD (l / 86400))) = mo := ⟨_, rfl⟩
  obtain ⟨dm, hdm⟩ : ∃ dm, mdN (ydN (absD (l / 86400))) = dm := ⟨_, rfl⟩
  obtain ⟨d, hd⟩ : ∃ d, absD (l / 86400) = d := ⟨_, rfl⟩
  obtain ⟨M, hM⟩ : ∃ M, mP (l / 86400) = M := ⟨_, rfl⟩
  obtain ⟨A, hA⟩ : ∃ A, absL l = A := ⟨_, rfl⟩
  rw [hC, hcy, hy] at CS
  rw [hmo, hdm, hy] at CT
  rw [hy, hj2] at CJ
  rw [hmo, hj, hM] at CM
  rw [hM]
  rw [hd] at CS CD
  rw [hA] at CD CA
  clear yb hy hj hj2 hC hcy hd hM hA hmo hdm
  obtain ⟨E, hE⟩ : ∃ E, eL off l = E := ⟨_, rfl⟩
  rw [hE] at CA B ⊢
  clear hE hp h0 h1 hl ho
  go_enter Tryz.func120, Tryz.ntmps120
  go_wp2_with (first
    | (go_at_call 128; refine CA.out.mono ?_; rintro e' w2 ⟨rfl, hb⟩; have HB := hid (bt B.out hb); clear hb)
    | (go_at_call 129; refine (CD.out _).mono ?_; rintro e' w3 ⟨rfl, rfl⟩)
    | (go_at_call 130; refine (CS.out _).mono ?_; rintro e' w3 ⟨rfl, rfl⟩)
    | (go_at_call 133; refine (CJ.out _).mono ?_; rintro e' w3 ⟨rfl, rfl⟩)
    | (go_at_call 131; refine (CT.out _).mono ?_; rintro e' w3 ⟨rfl, rfl⟩)
    | (go_at_call 135; refine (CM.out _).mono ?_; rintro e' w3 ⟨rfl, rfl⟩))
  go_ret
  exact ⟨rfl, HB.out⟩

theorem hour_any (n l off : Int) (p : Option Addr) (w : World) (h0 : 0 ≤ n) (h1 : n < 1073741824) (hl : near l) (ho : offOk off) (hp : Fx w p off) :
    Calls Tryz.prog 124 #[.agg (tcells n (eL off l) p)] w fun e' w' => e' = .returned (.int .i64 (l % 86400 / 3600)) ∧ Below w.heap.size w w' := by
  have B := hid (show Below w.heap.size w (w.alloc (.cells (tcells n (eL off l) p) 52)) by go_grown)
  have CA := hid (absF_any n l off p _ h0 h1 hl ho (hp.below B.out))
  have hL := absL_int hl
  obtain ⟨l1, l2⟩ := hl
  obtain ⟨A, hA⟩ : ∃ A, absL l = A := ⟨_, rfl⟩
  rw [hA] at CA hL
  obtain ⟨r, hr⟩ : ∃ r, A % 86400 = r := ⟨_, rfl⟩
  have rb : r ≤ 9223372036854775807 := by omega
  obtain ⟨q, hq⟩ : ∃ q, r / 3600 = q := ⟨_, rfl⟩
  have hres : l % 86400 / 3600 = (q : Int) := by omega
  have qb : q ≤ 9223372036854775807 := by omega
  rw [hres]
  have t2 : (r : Int).tdiv 3600 = (q : Int) := tdivN hq
  have w3 := wi qb
  have w4 := wj qb
  have t1 : (A : Int).tmod 86400 = (r : Int) := tmodN hr
  have rb' : r ≤ 18446744073709551615 := by omega
  have w1 := wi rb
  have w2 := wj rb
  have w5 := wv rb'
  clear hL hA hr rb rb' hres l1 l2 hq qb
  obtain ⟨E, hE⟩ : ∃ E, eL off l = E := ⟨_, rfl⟩
  rw [hE] at CA B ⊢
  clear hE hp h0 h1 ho
  go_enter Tryz.func124, Tryz.ntmps124
  go_wp2_with (first
    | (go_at_call 128; refine CA.out.mono ?_; rintro e' w2 ⟨rfl, hb⟩; have HB := hid (bt B.out hb); clear hb))
  go_ret
  exact ⟨rfl, HB.out⟩

theorem minute_any (n l off : Int) (p : Option Addr) (w : World) (h0 : 0 ≤ n) (h1 : n < 1073741824) (hl : near l) (ho : offOk off) (hp : Fx w p off) :
    Calls Tryz.prog 125 #[.agg (tcells n (eL off l) p)] w fun e' w' => e' = .returned (.int .i64 (l % 3600 / 60)) ∧ Below w.heap.size w w' := by
  have B := hid (show Below w.heap.size w (w.alloc (.cells (tcells n (eL off l) p) 52)) by go_grown)
  have CA := hid (absF_any n l off p _ h0 h1 hl ho (hp.below B.out))
  have hL := absL_int hl
  obtain ⟨l1, l2⟩ := hl
  obtain ⟨A, hA⟩ : ∃ A, absL l = A := ⟨_, rfl⟩
  rw [hA] at CA hL
  obtain ⟨r, hr⟩ : ∃ r, A % 3600 = r := ⟨_, rfl⟩
  have rb : r ≤ 9223372036854775807 := by omega
  obtain ⟨q, hq⟩ : ∃ q, r / 60 = q := ⟨_, rfl⟩
  have hres : l % 3600 / 60 = (q : Int) := by omega
  have qb : q ≤ 9223372036854775807 := by omega
  rw [hres]
  have t2 : (r : Int).tdiv 60 = (q : Int) := tdivN hq
  have w3 := wi qb
  have w4 := wj qb
  have t1 : (A : Int).tmod 3600 = (r : Int) := tmodN hr
  have rb' : r ≤ 18446744073709551615 := by omega
  have w1 := wi rb
  have w2 := wj rb
  have w5 := wv rb'
  clear hL hA hr rb rb' hres l1 l2 hq qb
  obtain ⟨E, hE⟩ : ∃ E, eL off l = E := ⟨_, rfl⟩
  rw [hE] at CA B ⊢
  clear hE hp h0 h1 ho
  go_enter Tryz.func125, Tryz.ntmps125
  go_wp2_with (first
    | (go_at_call 128; refine CA.out.mono ?_; rintro e' w2 ⟨rfl, hb⟩; have HB := hid (bt B.out hb); clear hb))
  go_ret
  exact ⟨rfl, HB.out⟩

theorem second_any (n l off : Int) (p : Option Addr) (w : World) (h0 : 0 ≤ n) (h1 : n < 1073741824) (hl : near l) (ho : offOk off) (hp : Fx w p off) :
    Calls Tryz.prog 127 #[.agg (tcells n (eL off l) p)] w fun e' w' => e' = .returned (.int .i64 (l % 60)) ∧ Below w.heap.size w w' := by
  have B := hid (show Below w.heap.size w (w.alloc (.cells (tcells n (eL off l) p) 52)) by go_grown)
  have CA := hid (absF_any n l off p _ h0 h1 hl ho (hp.below B.out))
  have hL := absL_int hl
  obtain ⟨l1, l2⟩ := hl
  obtain ⟨A, hA⟩ : ∃ A, absL l = A := ⟨_, rfl⟩
  rw [hA] at CA hL
  obtain ⟨r, hr⟩ : ∃ r, A % 60 = r := ⟨_, rfl⟩
  have rb : r ≤ 9223372036854775807 := by omega
  have hres : l % 60 = (r : Int) := by omega
  rw [hres]
  have t1 : (A : Int).tmod 60 = (r : Int) := tmodN hr
  have rb' : r ≤ 18446744073709551615 := by omega
  have w1 := wi rb
  have w2 := wj rb
  have w5 := wv rb'
  clear hL hA hr rb rb' hres l1 l2
  obtain ⟨E, hE⟩ : ∃ E, eL off l = E := ⟨_, rfl⟩
  rw [hE] at CA B ⊢
  clear hE hp h0 h1 ho
  go_enter Tryz.func127, Tryz.ntmps127
  go_wp2_with (first
    | (go_at_call 128; refine CA.out.mono ?_; rintro e' w2 ⟨rfl, hb⟩; have HB := hid (bt B.out hb); clear hb))
  go_ret
  exact ⟨rfl, HB.out⟩

theorem dayF_any (n l off : Int) (p : Option Addr) (w : World) (h0 : 0 ≤ n) (h1 : n < 1073741824) (hl : near l) (ho : offOk off) (hp : Fx w p off) :
    Calls Tryz.prog 115 #[.agg (tcells n (eL off l) p)] w fun e' w' => e' = .returned (.int .i64 (dP (l / 86400))) ∧ Below w.heap.size w w' := by
  have hL := absL_int hl
  have hd := absL_day hl
  have h2 := absL_lt hl
  obtain ⟨l1, l2⟩ := hl
  obtain ⟨o1, o2⟩ := ho
  exact day_any n (eL off l) (l - off) off p (absL l) (absD (l / 86400)) w h0 h1 (by unfold eL; omega) (by omega) (by omega) (hp _ (by omega) (by omega)) (by omega) h2 hd
theorem wdayF_any (n l off : Int) (p : Option Addr) (w : World) (h0 : 0 ≤ n) (h1 : n < 1073741824) (hl : near l) (ho : offOk off) (hp : Fx w p off) :
    Calls Tryz.prog 141 #[.agg (tcells n (eL off l) p)] w fun e' w' => e' = .returned (.int .i64 ((absD (l / 86400) + 3) % 7 : Nat)) ∧ Below w.heap.size w w' := by
  have hL := absL_int hl
  have hd := absL_day hl
  have h2 := absL_lt hl
  obtain ⟨l1, l2⟩ := hl
  obtain ⟨o1, o2⟩ := ho
  exact wday_any n (eL off l) (l - off) off p (absL l) (absD (l / 86400)) w h0 h1 (by unfold eL; omega) (by omega) (by omega) (hp _ (by omega) (by omega)) (by omega) h2 hd
end Go.Proofs.YtjbafphoemibaaaGreatDoor

set_option linter.unusedVariables false
set_option linter.unusedSimpArgs false
namespace Go.Proofs.YtjbafphoemibaaaGreatDoor
open Go.RowKit

theorem adate_any (day : Int) (w : World) (h1 : absD day < 1000000000000000000) (h2 : 2922000000 ≤ (4 * absD day + 3) / 146097) (h3 : (4 * absD day + 3) / 146097 ≤ 3000000000) :
    Calls Tryz.prog 146 #[.int .u64 (absD day)] w fun e w' => e = .returned (.tuple #[.int .i64 (yP day), .int .i64 (mP day), .int .i64 (dP day)]) ∧ w = w' := by
  have CS := hid (fun w => asplit_any (absD day) w h1)
  have yb := ydN_lt (absD day)
  have CJ := hid (fun w => jf_any (ydN (absD day)) w yb)
  have CY := hid (fun w => cyear_any ((4 * absD day + 3) / 146097) (cyN (absD day)) (jfN (absD day)) (yP day) w h3 h2 (cyN_le _) (by unfold jfN; split <;> omega) rfl)
  have CT := hid (fun w => ysplit_any (ydN (absD day)) w (by omega))
  have CM := hid (fun w => amonth_any (moN (ydN (absD day))) (jfN (absD day)) (mP day) w (moN_le _ yb) (by unfold jfN; split <;> omega) rfl)
  obtain ⟨y, hy⟩ : ∃ y, ydN (absD day) = y := ⟨_, rfl⟩
  obtain ⟨j, hj⟩ : ∃ j, jfN (absD day) = j := ⟨_, rfl⟩
  have hj2 : (if 306 ≤ y then 1 else 0 : Nat) = j := by rw [← hj, ← hy]; rfl
  obtain ⟨C, hC⟩ : ∃ C, (4 * absD day + 3) / 146097 = C := ⟨_, rfl⟩
  obtain ⟨cy, hcy⟩ : ∃ cy, cyN (absD day) = cy := ⟨_, rfl⟩
  obtain ⟨mo, hmo⟩ : ∃ mo, moN (ydN (absD day)) = mo := ⟨_, rfl⟩
  obtain ⟨dm, hdm⟩ : ∃ dm, mdN (ydN (absD day)) = dm := ⟨_, rfl⟩
  have hdp : dP day = (dm : Int) := by rw [← hdm]; rfl
  obtain ⟨d, hd⟩ : ∃ d, absD day = d := ⟨_, rfl⟩
  obtain ⟨M, hM⟩ : ∃ M, mP day = M := ⟨_, rfl⟩
  obtain ⟨Y, hY⟩ : ∃ Y, yP day = Y := ⟨_, rfl⟩
  rw [hC, hcy, hy] at CS
  rw [hmo, hdm, hy] at CT
  rw [hy, hj2] at CJ
  rw [hC, hcy, hj, hY] at CY
  rw [hmo, hj, hM] at CM
  rw [hM, hY, hdp, hd]
  rw [hd] at CS
  clear yb hy hj hj2 hC hcy hd hM hY hmo hdm hdp h1 h2 h3
  go_enter Tryz.func146, Tryz.ntmps146
  go_wp2_with (first
    | (go_at_call 130; refine (CS.out _).mono ?_; rintro e' w3 ⟨rfl, rfl⟩)
    | (go_at_call 133; refine (CJ.out _).mono ?_; rintro e' w3 ⟨rfl, rfl⟩)
    | (go_at_call 131; refine (CT.out _).mono ?_; rintro e' w3 ⟨rfl, rfl⟩)
    | (go_at_call 134; refine (CY.out _).mono ?_; rintro e' w3 ⟨rfl, rfl⟩)
    | (go_at_call 135; refine (CM.out _).mono ?_; rintro e' w3 ⟨rfl, rfl⟩))
  go_returns
  exact ⟨rfl, rfl⟩

theorem dateF_any (n l off : Int) (p : Option Addr) (w : World) (h0 : 0 ≤ n) (h1 : n < 1073741824) (hl : near l) (ho : offOk off) (hp : Fx w p off) :
    Calls Tryz.prog 139 #[.agg (tcells n (eL off l) p)] w fun e' w' => e' = .returned (.tuple #[.int .i64 (yP (l / 86400)), .int .i64 (mP (l / 86400)), .int .i64 (dP (l / 86400))]) ∧ Below w.heap.size w w' := by
  have B := hid (show Below w.heap.size w (w.alloc (.cells (tcells n (eL off l) p) 52)) by go_grown)
  have CA := hid (absF_any n l off p _ h0 h1 hl ho (hp.below B.out))
  have CD := hid (fun w => adays_any (absL l) (absD (l / 86400)) w (absL_lt hl) (absL_day hl))
  have cb := cent_bounds hl
  have CT := hid (fun w => adate_any (l / 86400) w (absD_lt hl) cb.1 cb.2)
  obtain ⟨E, hE⟩ : ∃ E, eL off l = E := ⟨_, rfl⟩
  obtain ⟨day, hday⟩ : ∃ day, l / 86400 = day := ⟨_, rfl⟩
  rw [hday] at CD CT ⊢
  obtain ⟨d, hd⟩ : ∃ d, absD day = d := ⟨_, rfl⟩
  obtain ⟨A, hA⟩ : ∃ A, absL l = A := ⟨_, rfl⟩
  rw [hd] at CD CT
  rw [hA] at CA CD
  rw [hE] at CA B ⊢
  clear hE hp h0 h1 hl ho cb hday hd hA
  go_enter Tryz.func139, Tryz.ntmps139
  go_wp2_with (first
    | (go_at_call 128; refine CA.out.mono ?_; rintro e' w2 ⟨rfl, hb⟩; have HB := hid (bt B.out hb); clear hb)
    | (go_at_call 129; refine (CD.out _).mono ?_; rintro e' w3 ⟨rfl, rfl⟩)
    | (go_at_call 146; refine (CT.out _).mono ?_; rintro e' w3 ⟨rfl, rfl⟩))
  go_returns
  exact ⟨rfl, HB.out⟩

theorem aclock_any (A s h r m c : Nat) (w : World) (hA : A < 18446744073709551616) (hs : A % 86400 = s) (hh : s / 3600 = h) (hr : s % 3600 = r) (hm : r / 60 = m) (hc : r % 60 = c) :
    Calls Tryz.prog 147 #[.int .u64 A] w fun e w' => e = .returned (.tuple #[.int .i64 h, .int .i64 m, .int .i64 c]) ∧ w = w' := by
  have sb : s ≤ 86399 := by omega
  have hb : h ≤ 23 := by omega
  have rb : r ≤ 3599 := by omega
  have mb : m ≤ 59 := by omega
  have cb : c ≤ 59 := by omega
  have p1 : (h : Int) * 3600 + r = s := by omega
  have p2 : (m : Int) * 60 + c = r := by omega
  have t1 : (A : Int).tmod 86400 = (s : Int) := tmodN hs
  have t2 : (s : Int).tdiv 3600 = (h : Int) := tdivN hh
  have t3 : (r : Int).tdiv 60 = (m : Int) := tdivN hm
  clear hs hh hr hm hc hA
  have sb2 : s ≤ 18446744073709551615 := by omega
  have sb3 : s ≤ 9223372036854775807 := by omega
  have hb3 : h ≤ 9223372036854775807 := by omega
  have rb3 : r ≤ 9223372036854775807 := by omega
  have mb3 : m ≤ 9223372036854775807 := by omega
  have cb3 : c ≤ 9223372036854775807 := by omega
  obtain ⟨x, hx⟩ : ∃ x : Int, (h : Int) * 3600 = x := ⟨_, rfl⟩
  obtain ⟨y, hy⟩ : ∃ y : Int, (m : Int) * 60 = y := ⟨_, rfl⟩
  have x1 : IntKind.i64.wrap ((h : Int) * 3600) = x := by rw [hx]; exact IntWalk.i64_in _ (by omega)
  have x1' : wrap64 ((h : Int) * 3600) = x := by rw [hx]; exact IntWalk.wrap64_in _ (by omega)
  have y1 : IntKind.i64.wrap ((m : Int) * 60) = y := by rw [hy]; exact IntWalk.i64_in _ (by omega)
  have y1' : wrap64 ((m : Int) * 60) = y := by rw [hy]; exact IntWalk.wrap64_in _ (by omega)
  have x2 : (s : Int) - x = r := by omega
  have y2 : (r : Int) - y = c := by omega
  clear p1 p2 hx hy sb hb rb mb cb
  have w1 := wv sb2
  have w2 := wi sb3
  have w2' := wj sb3
  have w3 := wi hb3
  have w3' := wj hb3
  have w4 := wi rb3
  have w4' := wj rb3
  have w5 := wi mb3
  have w5' := wj mb3
  have w6 := wi cb3
  have w6' := wj cb3
  clear sb2 sb3 hb3 rb3 mb3 cb3
  go_enter Tryz.func147, Tryz.ntmps147
  go_wp2
  go_returns
  exact ⟨rfl, rfl⟩

theorem clockF_any (n l off : Int) (p : Option Addr) (h m c : Nat) (w : World) (h0 : 0 ≤ n) (h1 : n < 1073741824) (hl : near l) (ho : offOk off) (hp : Fx w p off) (hh : l % 86400 / 3600 = h) (hm : l % 3600 / 60 = m) (hc : l % 60 = c) :
    Calls Tryz.prog 140 #[.agg (tcells n (eL off l) p)] w fun e' w' => e' = .returned (.tuple #[.int .i64 h, .int .i64 m, .int .i64 c]) ∧ Below w.heap.size w w' := by
  have B := hid (show Below w.heap.size w (w.alloc (.cells (tcells n (eL off l) p) 52)) by go_grown)
  have CA := hid (absF_any n l off p _ h0 h1 hl ho (hp.below B.out))
  have hL := absL_int hl
  have hlt := absL_lt hl
  obtain ⟨l1, l2⟩ := hl
  obtain ⟨A, hA⟩ : ∃ A, absL l = A := ⟨_, rfl⟩
  rw [hA] at CA hL hlt
  have CC := hid (fun w => aclock_any A (A % 86400) h (A % 86400 % 3600) m c w hlt rfl (by omega) rfl (by omega) (by omega))
  obtain ⟨E, hE⟩ : ∃ E, eL off l = E := ⟨_, rfl⟩
  rw [hE] at CA B ⊢
  clear hE hp h0 h1 ho hh hm hc hL hlt hA l1 l2
  go_enter Tryz.func140, Tryz.ntmps140
  go_wp2_with (first
    | (go_at_call 128; refine CA.out.mono ?_; rintro e' w2 ⟨rfl, hb⟩; have HB := hid (bt B.out hb); clear hb)
    | (go_at_call 147; refine (CC.out _).mono ?_; rintro e' w3 ⟨rfl, rfl⟩))
  go_returns
  exact ⟨rfl, HB.out⟩

theorem norm_same (hi lo base : Int) (w : World) (h0 : 0 ≤ lo) (h1 : lo < base) : Calls Tryz.prog 136 #[.int .i64 hi, .int .i64 lo, .int .i64 base] w fun e w' => e = .returned (.tuple #[.int .i64 hi, .int .i64 lo]) ∧ w = w' := by
  have u0 : ¬ lo < 0 := by omega
  have u1 : ¬ base ≤ lo := by omega
  go_enter Tryz.func136, Tryz.ntmps136
  go_wp2
  go_returns
  exact ⟨rfl, rfl⟩
theorem norm_12 (hi : Int) (w : World) (h0 : -1000000 ≤ hi) (h1 : hi ≤ 1000000) : Calls Tryz.prog 136 #[.int .i64 hi, .int .i64 12, .int .i64 12] w fun e w' => e = .returned (.tuple #[.int .i64 (hi + 1), .int .i64 0]) ∧ w = w' := by
  have u : IntKind.i64.wrap (hi + 1) = hi + 1 := IntWalk.i64_in _ (by omega)
  have u' : wrap64 (hi + 1) = hi + 1 := IntWalk.wrap64_in _ (by omega)
  go_enter Tryz.func136, Tryz.ntmps136
  go_wp2
  go_returns
  exact ⟨rfl, rfl⟩
end Go.Proofs.YtjbafphoemibaaaGreatDoor

set_option linter.unusedVariables false
set_option linter.unusedSimpArgs false
namespace Go.Proofs.YtjbafphoemibaaaGreatDoor
open Go.RowKit

theorem dtad_walk (Y M D : Int) (j m y cum C cy q1 q2 s : Nat) (t u r : Int) (w : World) (hM1 : 1 ≤ M) (hM2 : M ≤ 12) (hY1 : -1000 ≤ Y) (hY2 : Y ≤ 50000) (hD1 : 1 ≤ D) (hD2 : D ≤ 40)
    (hj : j = if M < 3 then 1 else 0) (hm : (m : Int) = M + 12 * j) (hy : (y : Int) = Y - j + 292277022400) (hcum : cumM m = cum) (hC : y / 100 = C) (hcy : y % 100 = cy) (hq1 : 146097 * C / 4 = q1) (hq2 : 1461 * cy / 4 = q2) (hs : q2 + cum = s) (hr : (q1 : Int) + s + D - 1 = r) :
    Calls Tryz.prog 137 #[.int .i64 Y, .int .i64 M, .int .i64 D] w fun e w' => e = .returned (.int .u64 r) ∧ w = w' := by
  -- bounds
  have jb : j ≤ 1 := by rw [hj]; split <;> omega
  have mb1 : 3 ≤ m := by rw [hj] at hm; split at hm <;> omega
  have mb : m ≤ 14 := by rw [hj] at hm; split at hm <;> omega
  have yb : y ≤ 300000000000 := by omega
  have yb1 : 290000000000 ≤ y := by omega
  have Cb : C ≤ 3000000000 := by omega
  have cyb : cy ≤ 99 := by omega
  have q1b : q1 ≤ 200000000000000 := by omega
  have q1b1 : 1000000 ≤ q1 := by omega
  have q2b : q2 ≤ 40000 := by omega
  have cb : cum ≤ 400 := by rw [← hcum]; unfold cumM; omega
  have sb : s ≤ 50000 := by omega
  -- values
  obtain ⟨a, ha⟩ : ∃ a : Nat, 979 * m = a := ⟨_, rfl⟩
  obtain ⟨b, hb⟩ : ∃ b : Nat, a - 2919 = b := ⟨_, rfl⟩
  have ab : 2919 ≤ a ∧ a ≤ 20000 := by omega
  have bb : b ≤ 20000 := by omega
  have hbc : b / 32 = cum := by rw [← hcum, cumM, ha, hb]
  obtain ⟨n12, hn12⟩ : ∃ n : Nat, 12 * j = n := ⟨_, rfl⟩
  have f1 : (12 : Int) * (j : Int) = (n12 : Int) := by omega
  have f2 : M + (n12 : Int) = (m : Int) := by omega
  have f3 : (979 : Int) * (m : Int) = (a : Int) := by omega
  have f4 : (a : Int) - 2919 = (b : Int) := by omega
  have f5 : (b : Int) / 32 = (cum : Int) := divN hbc
  have f6 : (y : Int).tdiv 100 = (C : Int) := tdivN hC
  have f7 : (y : Int).tmod 100 = (cy : Int) := tmodN hcy
  obtain ⟨c1, hc1⟩ : ∃ c : Nat, 1461 * cy = c := ⟨_, rfl⟩
  have f8 : (1461 : Int) * (cy : Int) = (c1 : Int) := by omega
  have f9 : (c1 : Int).tdiv 4 = (q2 : Int) := tdivN (by rw [← hc1]; exact hq2)
  obtain ⟨c2, hc2⟩ : ∃ c : Nat, 146097 * C = c := ⟨_, rfl⟩
  have fa : (146097 : Int) * (C : Int) = (c2 : Int) := by omega
  have fb : (c2 : Int).tdiv 4 = (q1 : Int) := tdivN (by rw [← hc2]; exact hq1)
  have fc : (q2 : Int) + (cum : Int) = (s : Int) := by omega
  obtain ⟨x1, hx1⟩ : ∃ x : Int, (s : Int) + D = x := ⟨_, rfl⟩
  obtain ⟨x2, hx2⟩ : ∃ x : Int, x1 - 1 = x := ⟨_, rfl⟩
  have fd : (q1 : Int) + x2 = r := by omega
  have rb : 0 ≤ r ∧ r ≤ 18446744073709551615 := by omega
  have x1b : 0 ≤ x1 ∧ x1 ≤ 100000 := by omega
  have x2b : 0 ≤ x2 ∧ x2 ≤ 100000 := by omega
  obtain ⟨z, hz⟩ : ∃ z, IntKind.u64.wrap Y = z := ⟨_, rfl⟩
  have hz' : Y % 18446744073709551616 = z := by rw [← hz, IntKind.wrap_u64]
  obtain ⟨z2, hz2⟩ : ∃ z2, IntKind.u64.wrap (z - (j : Int)) = z2 := ⟨_, rfl⟩
  have hz2' : (z - (j : Int)) % 18446744073709551616 = z2 := by rw [← hz2, IntKind.wrap_u64]
  have hz3 : IntKind.u64.wrap (z2 + 292277022400) = (y : Int) := by
    clear hz hz2
    rw [IntKind.wrap_u64]
    omega
  clear hz' hz2'
  have bj : (j : Int) = if M < 3 then 1 else 0 := by rw [hj]; split <;> rfl
  have wj1 : IntKind.u64.wrap (j : Int) = (j : Int) := wv (by clear hz hz2 hz3; omega)
  have wM : IntKind.u32.wrap M = M := IntWalk.u32_in _ (by clear hz hz2 hz3 wj1; omega)
  have w12 : IntKind.u32.wrap (n12 : Int) = (n12 : Int) := wu (by clear hz hz2 hz3 wj1 wM; omega)
  have wm : IntKind.u32.wrap (m : Int) = (m : Int) := wu (by clear hz hz2 hz3 wj1 wM w12; omega)
  have wa : IntKind.u32.wrap (a : Int) = (a : Int) := wu (by clear hz hz2 hz3 wj1 wM w12 wm; omega)
  have wb : IntKind.u32.wrap (b : Int) = (b : Int) := wu (by clear hz hz2 hz3 wj1 wM w12 wm wa; omega)
  have wc : IntKind.u32.wrap (cum : Int) = (cum : Int) := wu (by clear hz hz2 hz3 wj1 wM w12 wm wa wb; omega)
  have wC : IntKind.u64.wrap (C : Int) = (C : Int) := wv (by clear hz hz2 hz3 wj1 wM w12 wm wa wb wc; omega)
  have wcy : IntKind.u64.wrap (cy : Int) = (cy : Int) := wv (by clear hz hz2 hz3 wj1 wM w12 wm wa wb wc wC; omega)
  have wcy2 : IntKind.u32.wrap (cy : Int) = (cy : Int) := wu (by clear hz hz2 hz3 wj1 wM w12 wm wa wb wc wC wcy; omega)
  have wc1 : IntKind.u32.wrap (c1 : Int) = (c1 : Int) := wu (by clear hz hz2 hz3 wj1 wM w12 wm wa wb wc wC wcy wcy2; omega)
  have wq2 : IntKind.u32.wrap (q2 : Int) = (q2 : Int) := wu (by clear hz hz2 hz3 wj1 wM w12 wm wa wb wc wC wcy wcy2 wc1; omega)
  have wc2 : IntKind.u64.wrap (c2 : Int) = (c2 : Int) := wv (by clear hz hz2 hz3 wj1 wM w12 wm wa wb wc wC wcy wcy2 wc1 wq2; omega)
  have wq1 : IntKind.u64.wrap (q1 : Int) = (q1 : Int) := wv (by clear hz hz2 hz3 wj1 wM w12 wm wa wb wc wC wcy wcy2 wc1 wq2 wc2; omega)
  have ws : IntKind.u32.wrap (s : Int) = (s : Int) := wu (by clear hz hz2 hz3 wj1 wM w12 wm wa wb wc wC wcy wcy2 wc1 wq2 wc2 wq1; omega)
  have ws2 : IntKind.i64.wrap (s : Int) = (s : Int) := wi (by clear hz hz2 hz3 wj1 wM w12 wm wa wb wc wC wcy wcy2 wc1 wq2 wc2 wq1 ws; omega)
  have ws3 : wrap64 (s : Int) = (s : Int) := wj (by clear hz hz2 hz3 wj1 wM w12 wm wa wb wc wC wcy wcy2 wc1 wq2 wc2 wq1 ws ws2; omega)
  have wx1 : IntKind.i64.wrap ((s : Int) + D) = x1 := by rw [hx1]; exact IntWalk.i64_in _ ⟨by clear hz hz2 hz3 wj1 wM w12 wm wa wb wc wC wcy wcy2 wc1 wq2 wc2 wq1 ws ws2 ws3; omega, by clear hz hz2 hz3 wj1 wM w12 wm wa wb wc wC wcy wcy2 wc1 wq2 wc2 wq1 ws ws2 ws3; omega⟩
  have wx1' : wrap64 ((s : Int) + D) = x1 := by unfold wrap64; rw [← wx1, IntKind.wrap_i64]
  have wx2 : IntKind.i64.wrap (x1 - 1) = x2 := by rw [hx2]; exact IntWalk.i64_in _ ⟨by clear hz hz2 hz3 wj1 wM w12 wm wa wb wc wC wcy wcy2 wc1 wq2 wc2 wq1 ws ws2 ws3 wx1 wx1'; omega, by clear hz hz2 hz3 wj1 wM w12 wm wa wb wc wC wcy wcy2 wc1 wq2 wc2 wq1 ws ws2 ws3 wx1 wx1'; omega⟩
  have wx2' : wrap64 (x1 - 1) = x2 := by unfold wrap64; rw [← wx2, IntKind.wrap_i64]
  have wx3 : IntKind.u64.wrap x2 = x2 := IntWalk.u64_in _ ⟨by clear hz hz2 hz3 wj1 wM w12 wm wa wb wc wC wcy wcy2 wc1 wq2 wc2 wq1 ws ws2 ws3 wx1 wx1' wx2 wx2'; omega, by clear hz hz2 hz3 wj1 wM w12 wm wa wb wc wC wcy wcy2 wc1 wq2 wc2 wq1 ws ws2 ws3 wx1 wx1' wx2 wx2'; omega⟩
  have wr : IntKind.u64.wrap r = r := IntWalk.u64_in _ rb
  clear hx1 hx2 rb x1b x2b hc1 hc2 ha hb ab bb hbc hn12 jb mb1 mb yb yb1 Cb cyb q1b q1b1 q2b cb sb hr hs hq1 hq2 hC hcy hcum hy hm hD1 hD2 hY1 hY2
  by_cases h3 : M < 3
  · rw [if_pos h3] at hj
    subst hj
    obtain rfl : n12 = 12 := by clear wM w12 wm wa wb wc wC wcy wcy2 wc1 wq2 wc2 wq1 ws ws2 ws3 wx1 wx1' wx2 wx2' wx3 wr hz hz2 hz3 wj1; omega
    have f2' : M + 12 = (m : Int) := f2
    have hz2' : IntKind.u64.wrap (z - 1) = z2 := hz2
    clear bj hM1 hM2 f1 f2 hz2 w12 wj1
    go_enter Tryz.func137, Tryz.ntmps137
    go_wp2
    go_ret
    exact ⟨rfl, rfl⟩
  · rw [if_neg h3] at hj
    subst hj
    obtain rfl : n12 = 0 := by clear wM w12 wm wa wb wc wC wcy wcy2 wc1 wq2 wc2 wq1 ws ws2 ws3 wx1 wx1' wx2 wx2' wx3 wr hz hz2 hz3 wj1; omega
    obtain rfl : M = (m : Int) := by rw [← f2]; simp
    have hz2' : IntKind.u64.wrap z = z2 := by rw [← hz2]; simp
    clear bj hM1 hM2 f1 f2 hz2 w12 wj1
    go_enter Tryz.func137, Tryz.ntmps137
    go_wp2
    go_ret
    exact ⟨rfl, rfl⟩

theorem dtad_any (Y M D : Int) (w : World) (hM1 : 1 ≤ M) (hM2 : M ≤ 12) (hY1 : -1000 ≤ Y) (hY2 : Y ≤ 50000) (hD1 : 1 ≤ D) (hD2 : D ≤ 40) :
    Calls Tryz.prog 137 #[.int .i64 Y, .int .i64 M, .int .i64 D] w fun e w' => e = .returned (.int .u64 (dayOf Y M D + 106751991073400)) ∧ w = w' := by
  obtain ⟨j, hj⟩ : ∃ j : Nat, j = if M < 3 then 1 else 0 := ⟨_, rfl⟩
  have jb : j ≤ 1 := by rw [hj]; split <;> omega
  obtain ⟨m, hm⟩ := Int.eq_ofNat_of_zero_le (show 0 ≤ M + 12 * (j : Int) by omega)
  obtain ⟨y, hy⟩ := Int.eq_ofNat_of_zero_le (show 0 ≤ Y - (j : Int) + 292277022400 by omega)
  have e := abs_days Y M D hM1 hM2 (by omega) (by omega) hD1 hD2 j m y hj hm.symm hy.symm
  refine dtad_walk Y M D j m y _ _ _ _ _ _ 0 0 _ w hM1 hM2 hY1 hY2 hD1 hD2 hj hm.symm hy.symm rfl rfl rfl rfl rfl rfl ?_
  rw [← e]
  omega
end Go.Proofs.YtjbafphoemibaaaGreatDoor
