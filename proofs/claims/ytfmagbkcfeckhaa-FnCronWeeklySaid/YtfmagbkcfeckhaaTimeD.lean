/- The parts of a moment on the clocks of a location whose offset stays the same: year, month, day, day of the week, hour, minute, second. Walked. -/
import Derived.Test.YtfmagbkcfeckhaaDays
import Derived.Test.YtfmagbkcfeckhaaGregB
set_option linter.unusedVariables false
set_option linter.unusedSimpArgs false
namespace Go.Proofs.Ytfmagbkcfeckhaa
open Go.RowKit

/-- A location whose clocks are off seconds ahead of UTC all the time. -/
def Fx (w : World) (p : Option Addr) (off : Int) : Prop := ∀ s, -1000000000000 ≤ s → s ≤ 1000000000000 → At w p s off
theorem Fx.below {w w' : World} {p : Option Addr} {off : Int} (h : Fx w p off) (hb : Below w.heap.size w w') : Fx w' p off := fun s h1 h2 => (h s h1 h2).below hb
/-- A second of the clocks as a moment keeps it. -/
def eL (off l : Int) : Int := l - off + 62135596800
/-- What the statements reach. -/
def near (l : Int) : Prop := -80000000000 ≤ l ∧ l ≤ 400000000000
def offOk (off : Int) : Prop := -86400 ≤ off ∧ off ≤ 86400
/-- The absolute second. -/
def absL (l : Int) : Nat := (l + 9223372028741760000).toNat
theorem absL_int {l : Int} (h : near l) : ((absL l : Nat) : Int) = l + 9223372028741760000 := by
  obtain ⟨h1, h2⟩ := h
  unfold absL
  omega
theorem absL_lt {l : Int} (h : near l) : absL l < 18446744073709551616 := by
  have := absL_int h
  obtain ⟨h1, h2⟩ := h
  omega
theorem absL_day {l : Int} (h : near l) : absL l / 86400 = absD (l / 86400) := by
  have := absL_int h
  obtain ⟨h1, h2⟩ := h
  unfold absD
  omega
theorem absD_lt {l : Int} (h : near l) : absD (l / 86400) < 1000000000000000000 := by
  obtain ⟨h1, h2⟩ := h
  unfold absD
  omega
theorem near_day {l : Int} (h : near l) : -1000000 ≤ l / 86400 ∧ l / 86400 ≤ 5000000 := by
  obtain ⟨h1, h2⟩ := h
  omega

theorem absF_any (n l off : Int) (p : Option Addr) (w : World) (h0 : 0 ≤ n) (h1 : n < 1073741824) (hl : near l) (ho : offOk off) (hp : Fx w p off) :
    Calls Try.prog 67 #[.agg (tcells n (eL off l) p)] w fun e' w' => e' = .returned (.int .u64 (absL l)) ∧ Below w.heap.size w w' := by
  have hL := absL_int hl
  obtain ⟨l1, l2⟩ := hl
  obtain ⟨o1, o2⟩ := ho
  refine absSec_any n (eL off l) (l - off) off p (absL l) w h0 h1 ?_ (by omega) (by omega) (hp _ (by omega) (by omega)) (by omega)
  unfold eL
  omega

theorem jf_any (y : Nat) (w : World) (hy : y ≤ 366) : Calls Try.prog 114 #[.int .i64 y] w fun e w' => e = .returned (.int .i64 ((if 306 ≤ y then 1 else 0 : Nat) : Int)) ∧ w = w' := by
  by_cases h : 306 ≤ y
  · rw [if_pos h]
    have u : (306 : Int) ≤ (y : Int) := by omega
    go_enter Try.func114, Try.ntmps114
    go_wp2
    go_ret
    exact ⟨rfl, rfl⟩
  · rw [if_neg h]
    have u : ¬ (306 : Int) ≤ (y : Int) := by omega
    go_enter Try.func114, Try.ntmps114
    go_wp2
    go_ret
    exact ⟨rfl, rfl⟩

theorem cyear_any (C cy j : Nat) (r : Int) (w : World) (hC : C ≤ 3000000000) (hC0 : 2922000000 ≤ C) (hcy : cy ≤ 100000) (hj : j ≤ 1) (hr : 100 * (C : Int) - 292277022400 + cy + j = r) :
    Calls Try.prog 115 #[.int .u64 C, .int .i64 cy, .int .i64 j] w fun e w' => e = .returned (.int .i64 r) ∧ w = w' := by
  have m1 : IntKind.u64.wrap ((C : Int) * 100) = (C : Int) * 100 := IntWalk.u64_in _ (by omega)
  obtain ⟨x, hx⟩ : ∃ x, IntKind.u64.wrap ((C : Int) * 100 - 292277022400) = x := ⟨_, rfl⟩
  have hx' := hx
  rw [IntKind.wrap_u64] at hx'
  obtain ⟨y, hy⟩ : ∃ y : Int, 100 * (C : Int) - 292277022400 = y := ⟨_, rfl⟩
  have y1 : IntKind.i64.wrap x = y := by
    clear m1 hx
    rw [IntKind.wrap_i64]
    omega
  have y1' : wrap64 x = y := by unfold wrap64; rw [← y1, IntKind.wrap_i64]
  have yb : -100000000000 ≤ y ∧ y ≤ 100000000000 := by clear m1 hx hx' y1 y1'; omega
  obtain ⟨z, hz⟩ : ∃ z : Int, y + cy = z := ⟨_, rfl⟩
  have zb : -200000000000 ≤ z ∧ z ≤ 200000000000 := by clear m1 hx hx' y1 y1'; omega
  have z1 : IntKind.i64.wrap (y + (cy : Int)) = z := by rw [hz]; exact IntWalk.i64_in _ ⟨by clear m1 hx hx' y1 y1'; omega, by clear m1 hx hx' y1 y1'; omega⟩
  have z1' : wrap64 (y + (cy : Int)) = z := by unfold wrap64; rw [← z1, IntKind.wrap_i64]
  have r0 : z + (j : Int) = r := by clear m1 hx hx' y1 y1' z1 z1'; omega
  have r1 : IntKind.i64.wrap (z + (j : Int)) = r := by rw [r0]; exact IntWalk.i64_in _ ⟨by clear m1 hx hx' y1 y1' z1 z1'; omega, by clear m1 hx hx' y1 y1' z1 z1'; omega⟩
  have r1' : wrap64 (z + (j : Int)) = r := by unfold wrap64; rw [← r1, IntKind.wrap_i64]
  clear hx' hy hz r0 hr hC hC0 hcy hj yb zb
  go_enter Try.func115, Try.ntmps115
  go_wp2
  go_ret
  exact ⟨rfl, rfl⟩

theorem amonth_any (m j : Nat) (r : Int) (w : World) (hm : m ≤ 20) (hj : j ≤ 1) (hr : (m : Int) - 12 * j = r) :
    Calls Try.prog 116 #[.int .i64 m, .int .i64 j] w fun e w' => e = .returned (.int .i64 r) ∧ w = w' := by
  obtain ⟨x, hx⟩ : ∃ x : Int, (j : Int) * 12 = x := ⟨_, rfl⟩
  have x1 : IntKind.i64.wrap ((j : Int) * 12) = x := by rw [hx]; exact IntWalk.i64_in _ (by omega)
  have x1' : wrap64 ((j : Int) * 12) = x := by rw [hx]; exact IntWalk.wrap64_in _ (by omega)
  have r0 : (m : Int) - x = r := by omega
  have r1 : IntKind.i64.wrap ((m : Int) - x) = r := by rw [r0]; exact IntWalk.i64_in _ (by omega)
  have r1' : wrap64 ((m : Int) - x) = r := by rw [r0]; exact IntWalk.wrap64_in _ (by omega)
  clear hx r0 hr hm hj
  go_enter Try.func116, Try.ntmps116
  go_wp2
  go_ret
  exact ⟨rfl, rfl⟩

/-- The contracts that every part begins with. -/
theorem moN_le (y : Nat) (hy : y ≤ 366) : moN y ≤ 20 := by unfold moN; omega
theorem cent_bounds {l : Int} (h : near l) : 2922000000 ≤ (4 * absD (l / 86400) + 3) / 146097 ∧ (4 * absD (l / 86400) + 3) / 146097 ≤ 3000000000 := by
  obtain ⟨h1, h2⟩ := h
  unfold absD
  omega
theorem cyN_le (d : Nat) : cyN d ≤ 100000 := by
  have := cdN_lt d
  unfold cyN
  omega

theorem year_any (n l off : Int) (p : Option Addr) (w : World) (h0 : 0 ≤ n) (h1 : n < 1073741824) (hl : near l) (ho : offOk off) (hp : Fx w p off) :
    Calls Try.prog 106 #[.agg (tcells n (eL off l) p)] w fun e' w' => e' = .returned (.int .i64 (yP (l / 86400))) ∧ Below w.heap.size w w' := by
  have B := hid (show Below w.heap.size w (w.alloc (.cells (tcells n (eL off l) p) 62)) by go_grown)
  have CA := hid (absF_any n l off p _ h0 h1 hl ho (hp.below B.out))
  have CD := hid (fun w => adays_any (absL l) (absD (l / 86400)) w (absL_lt hl) (absL_day hl))
  have CS := hid (fun w => asplit_any (absD (l / 86400)) w (absD_lt hl))
  have yb := ydN_lt (absD (l / 86400))
  have CJ := hid (fun w => jf_any (ydN (absD (l / 86400))) w yb)
  have cb := cent_bounds hl
  have CY := hid (fun w => cyear_any ((4 * absD (l / 86400) + 3) / 146097) (cyN (absD (l / 86400))) (jfN (absD (l / 86400))) (yP (l / 86400)) w cb.2 cb.1 (cyN_le _) (by unfold jfN; split <;> omega) rfl)
  obtain ⟨y, hy⟩ : ∃ y, ydN (absD (l / 86400)) = y := ⟨_, rfl⟩
  obtain ⟨j, hj⟩ : ∃ j, jfN (absD (l / 86400)) = j := ⟨_, rfl⟩
  have hj2 : (if 306 ≤ y then 1 else 0 : Nat) = j := by rw [← hj, ← hy]; rfl
  obtain ⟨C, hC⟩ : ∃ C, (4 * absD (l / 86400) + 3) / 146097 = C := ⟨_, rfl⟩
  obtain ⟨cy, hcy⟩ : ∃ cy, cyN (absD (l / 86400)) = cy := ⟨_, rfl⟩
  obtain ⟨d, hd⟩ : ∃ d, absD (l / 86400) = d := ⟨_, rfl⟩
  obtain ⟨Y, hY⟩ : ∃ Y, yP (l / 86400) = Y := ⟨_, rfl⟩
  obtain ⟨A, hA⟩ : ∃ A, absL l = A := ⟨_, rfl⟩
  rw [hC, hcy, hy] at CS
  rw [hy, hj2] at CJ
  rw [hC, hcy, hj, hY] at CY
  rw [hY]
  rw [hd] at CS CD
  rw [hA] at CD CA
  clear yb cb hy hj hj2 hC hcy hd hY hA
  obtain ⟨E, hE⟩ : ∃ E, eL off l = E := ⟨_, rfl⟩
  rw [hE] at CA B ⊢
  clear hE hp h0 h1 hl ho
  go_enter Try.func106, Try.ntmps106
  go_wp2_with (first
    | (go_at_call 67; refine CA.out.mono ?_; rintro e' w2 ⟨rfl, hb⟩; have HB := hid (bt B.out hb); clear hb)
    | (go_at_call 68; refine (CD.out _).mono ?_; rintro e' w3 ⟨rfl, rfl⟩)
    | (go_at_call 69; refine (CS.out _).mono ?_; rintro e' w3 ⟨rfl, rfl⟩)
    | (go_at_call 114; refine (CJ.out _).mono ?_; rintro e' w3 ⟨rfl, rfl⟩)
    | (go_at_call 115; refine (CY.out _).mono ?_; rintro e' w3 ⟨rfl, rfl⟩))
  go_ret
  exact ⟨rfl, HB.out⟩

theorem month_any (n l off : Int) (p : Option Addr) (w : World) (h0 : 0 ≤ n) (h1 : n < 1073741824) (hl : near l) (ho : offOk off) (hp : Fx w p off) :
    Calls Try.prog 107 #[.agg (tcells n (eL off l) p)] w fun e' w' => e' = .returned (.int .i64 (mP (l / 86400))) ∧ Below w.heap.size w w' := by
  have B := hid (show Below w.heap.size w (w.alloc (.cells (tcells n (eL off l) p) 62)) by go_grown)
  have CA := hid (absF_any n l off p _ h0 h1 hl ho (hp.below B.out))
  have CD := hid (fun w => adays_any (absL l) (absD (l / 86400)) w (absL_lt hl) (absL_day hl))
  have CS := hid (fun w => asplit_any (absD (l / 86400)) w (absD_lt hl))
  have yb := ydN_lt (absD (l / 86400))
  have CJ := hid (fun w => jf_any (ydN (absD (l / 86400))) w yb)
  have CT := hid (fun w => ysplit_any (ydN (absD (l / 86400))) w (by omega))
  have CM := hid (fun w => amonth_any (moN (ydN (absD (l / 86400)))) (jfN (absD (l / 86400))) (mP (l / 86400)) w (moN_le _ yb) (by unfold jfN; split <;> omega) rfl)
  obtain ⟨y, hy⟩ : ∃ y, ydN (absD (l / 86400)) = y := ⟨_, rfl⟩
  obtain ⟨j, hj⟩ : ∃ j, jfN (absD (l / 86400)) = j := ⟨_, rfl⟩
  have hj2 : (if 306 ≤ y then 1 else 0 : Nat) = j := by rw [← hj, ← hy]; rfl
  obtain ⟨C, hC⟩ : ∃ C, (4 * absD (l / 86400) + 3) / 146097 = C := ⟨_, rfl⟩
  obtain ⟨cy, hcy⟩ : ∃ cy, cyN (absD (l / 86400)) = cy := ⟨_, rfl⟩
  obtain ⟨mo, hmo⟩ : ∃ mo, moN (ydN (absD (l / 86400))) = mo := ⟨_, rfl⟩
  obtain ⟨dm, hdm⟩ : ∃ dm, mdN (ydN (absD (l / 86400))) = dm := ⟨_, rfl⟩
  obtain ⟨d, hd⟩ : ∃ d, absD (l / 86400) = d := ⟨_, rfl⟩
  obtain ⟨M, hM⟩ : ∃ M, mP (l / 86400) = M := ⟨_, rfl⟩
  obtain ⟨A, hA⟩ : ∃ A, absL l = A := ⟨_, rfl⟩
  rw [hC, hcy, hy] at CS
  rw [hmo, hdm, hy] at CT
  rw [hy, hj2] at CJ
  rw [hmo, hj, hM] at CM
  rw [hM]
  rw [hd] at CS CD
  rw [hA] at CD CA
  clear yb hy hj hj2 hC hcy hd hM hA hmo hdm
  obtain ⟨E, hE⟩ : ∃ E, eL off l = E := ⟨_, rfl⟩
  rw [hE] at CA B ⊢
  clear hE hp h0 h1 hl ho
  go_enter Try.func107, Try.ntmps107
  go_wp2_with (first
    | (go_at_call 67; refine CA.out.mono ?_; rintro e' w2 ⟨rfl, hb⟩; have HB := hid (bt B.out hb); clear hb)
    | (go_at_call 68; refine (CD.out _).mono ?_; rintro e' w3 ⟨rfl, rfl⟩)
    | (go_at_call 69; refine (CS.out _).mono ?_; rintro e' w3 ⟨rfl, rfl⟩)
    | (go_at_call 114; refine (CJ.out _).mono ?_; rintro e' w3 ⟨rfl, rfl⟩)
    | (go_at_call 70; refine (CT.out _).mono ?_; rintro e' w3 ⟨rfl, rfl⟩)
    | (go_at_call 116; refine (CM.out _).mono ?_; rintro e' w3 ⟨rfl, rfl⟩))
  go_ret
  exact ⟨rfl, HB.out⟩

theorem hour_any (n l off : Int) (p : Option Addr) (w : World) (h0 : 0 ≤ n) (h1 : n < 1073741824) (hl : near l) (ho : offOk off) (hp : Fx w p off) :
    Calls Try.prog 110 #[.agg (tcells n (eL off l) p)] w fun e' w' => e' = .returned (.int .i64 (l % 86400 / 3600)) ∧ Below w.heap.size w w' := by
  have B := hid (show Below w.heap.size w (w.alloc (.cells (tcells n (eL off l) p) 62)) by go_grown)
  have CA := hid (absF_any n l off p _ h0 h1 hl ho (hp.below B.out))
  have hL := absL_int hl
  obtain ⟨l1, l2⟩ := hl
  obtain ⟨A, hA⟩ : ∃ A, absL l = A := ⟨_, rfl⟩
  rw [hA] at CA hL
  obtain ⟨r, hr⟩ : ∃ r, A % 86400 = r := ⟨_, rfl⟩
  have rb : r ≤ 9223372036854775807 := by omega
  obtain ⟨q, hq⟩ : ∃ q, r / 3600 = q := ⟨_, rfl⟩
  have hres : l % 86400 / 3600 = (q : Int) := by omega
  have qb : q ≤ 9223372036854775807 := by omega
  rw [hres]
  have t2 : (r : Int).tdiv 3600 = (q : Int) := tdivN hq
  have w3 := wi qb
  have w4 := wj qb
  have t1 : (A : Int).tmod 86400 = (r : Int) := tmodN hr
  have rb' : r ≤ 18446744073709551615 := by omega
  have w1 := wi rb
  have w2 := wj rb
  have w5 := wv rb'
  clear hL hA hr rb rb' hres l1 l2 hq qb
  obtain ⟨E, hE⟩ : ∃ E, eL off l = E := ⟨_, rfl⟩
  rw [hE] at CA B ⊢
  clear hE hp h0 h1 ho
  go_enter Try.func110, Try.ntmps110
  go_wp2_with (first
    | (go_at_call 67; refine CA.out.mono ?_; rintro e' w2 ⟨rfl, hb⟩; have HB := hid (bt B.out hb); clear hb))
  go_ret
  exact ⟨rfl, HB.out⟩

theorem minute_any (n l off : Int) (p : Option Addr) (w : World) (h0 : 0 ≤ n) (h1 : n < 1073741824) (hl : near l) (ho : offOk off) (hp : Fx w p off) :
    Calls Try.prog 111 #[.agg (tcells n (eL off l) p)] w fun e' w' => e' = .returned (.int .i64 (l % 3600 / 60)) ∧ Below w.heap.size w w' := by
  have B := hid (show Below w.heap.size w (w.alloc (.cells (tcells n (eL off l) p) 62)) by go_grown)
  have CA := hid (absF_any n l off p _ h0 h1 hl ho (hp.below B.out))
  have hL := absL_int hl
  obtain ⟨l1, l2⟩ := hl
  obtain ⟨A, hA⟩ : ∃ A, absL l = A := ⟨_, rfl⟩
  rw [hA] at CA hL
  obtain ⟨r, hr⟩ : ∃ r, A % 3600 = r := ⟨_, rfl⟩
  have rb : r ≤ 9223372036854775807 := by omega
  obtain ⟨q, hq⟩ : ∃ q, r / 60 = q := ⟨_, rfl⟩
  have hres : l % 3600 / 60 = (q : Int) := by omega
  have qb : q ≤ 9223372036854775807 := by omega
  rw [hres]
  have t2 : (r : Int).tdiv 60 = (q : Int) := tdivN hq
  have w3 := wi qb
  have w4 := wj qb
  have t1 : (A : Int).tmod 3600 = (r : Int) := tmodN hr
  have rb' : r ≤ 18446744073709551615 := by omega
  have w1 := wi rb
  have w2 := wj rb
  have w5 := wv rb'
  clear hL hA hr rb rb' hres l1 l2 hq qb
  obtain ⟨E, hE⟩ : ∃ E, eL off l = E := ⟨_, rfl⟩
  rw [hE] at CA B ⊢
  clear hE hp h0 h1 ho
  go_enter Try.func111, Try.ntmps111
  go_wp2_with (first
    | (go_at_call 67; refine CA.out.mono ?_; rintro e' w2 ⟨rfl, hb⟩; have HB := hid (bt B.out hb); clear hb))
  go_ret
  exact ⟨rfl, HB.out⟩

theorem second_any (n l off : Int) (p : Option Addr) (w : World) (h0 : 0 ≤ n) (h1 : n < 1073741824) (hl : near l) (ho : offOk off) (hp : Fx w p off) :
    Calls Try.prog 113 #[.agg (tcells n (eL off l) p)] w fun e' w' => e' = .returned (.int .i64 (l % 60)) ∧ Below w.heap.size w w' := by
  have B := hid (show Below w.heap.size w (w.alloc (.cells (tcells n (eL off l) p) 62)) by go_grown)
  have CA := hid (absF_any n l off p _ h0 h1 hl ho (hp.below B.out))
  have hL := absL_int hl
  obtain ⟨l1, l2⟩ := hl
  obtain ⟨A, hA⟩ : ∃ A, absL l = A := ⟨_, rfl⟩
  rw [hA] at CA hL
  obtain ⟨r, hr⟩ : ∃ r, A % 60 = r := ⟨_, rfl⟩
  have rb : r ≤ 9223372036854775807 := by omega
  have hres : l % 60 = (r : Int) := by omega
  rw [hres]
  have t1 : (A : Int).tmod 60 = (r : Int) := tmodN hr
  have rb' : r ≤ 18446744073709551615 := by omega
  have w1 := wi rb
  have w2 := wj rb
  have w5 := wv rb'
  clear hL hA hr rb rb' hres l1 l2
  obtain ⟨E, hE⟩ : ∃ E, eL off l = E := ⟨_, rfl⟩
  rw [hE] at CA B ⊢
  clear hE hp h0 h1 ho
  go_enter Try.func113, Try.ntmps113
  go_wp2_with (first
    | (go_at_call 67; refine CA.out.mono ?_; rintro e' w2 ⟨rfl, hb⟩; have HB := hid (bt B.out hb); clear hb))
  go_ret
  exact ⟨rfl, HB.out⟩

theorem dayF_any (n l off : Int) (p : Option Addr) (w : World) (h0 : 0 ≤ n) (h1 : n < 1073741824) (hl : near l) (ho : offOk off) (hp : Fx w p off) :
    Calls Try.prog 60 #[.agg (tcells n (eL off l) p)] w fun e' w' => e' = .returned (.int .i64 (dP (l / 86400))) ∧ Below w.heap.size w w' := by
  have hL := absL_int hl
  have hd := absL_day hl
  have h2 := absL_lt hl
  obtain ⟨l1, l2⟩ := hl
  obtain ⟨o1, o2⟩ := ho
  exact day_any n (eL off l) (l - off) off p (absL l) (absD (l / 86400)) w h0 h1 (by unfold eL; omega) (by omega) (by omega) (hp _ (by omega) (by omega)) (by omega) h2 hd
theorem wdayF_any (n l off : Int) (p : Option Addr) (w : World) (h0 : 0 ≤ n) (h1 : n < 1073741824) (hl : near l) (ho : offOk off) (hp : Fx w p off) :
    Calls Try.prog 61 #[.agg (tcells n (eL off l) p)] w fun e' w' => e' = .returned (.int .i64 ((absD (l / 86400) + 3) % 7 : Nat)) ∧ Below w.heap.size w w' := by
  have hL := absL_int hl
  have hd := absL_day hl
  have h2 := absL_lt hl
  obtain ⟨l1, l2⟩ := hl
  obtain ⟨o1, o2⟩ := ho
  exact wday_any n (eL off l) (l - off) off p (absL l) (absD (l / 86400)) w h0 h1 (by unfold eL; omega) (by omega) (by omega) (hp _ (by omega) (by omega)) (by omega) h2 hd
end Go.Proofs.Ytfmagbkcfeckhaa
