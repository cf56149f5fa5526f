/- Of a count of days since the absolute beginning: its parts (century, year of the century, day of the year, month, day), and the day of the week. Walked. -/
import Derived.Test.YtjbafphoemibaaaGreatDoorKit
import Derived.IntWalk
import Derived.LoopTactic
import Derived.Laws.BitsAllLaws
import Derived.Deep.MidRow
set_option linter.unusedVariables false
set_option linter.unusedSimpArgs false
namespace Go.Proofs.YtjbafphoemibaaaGreatDoor
open Go.RowKit

theorem tdivN {x k q : Nat} (h : x / k = q) : (x : Int).tdiv (k : Int) = (q : Int) := by subst h; rfl
theorem tmodN {x k q : Nat} (h : x % k = q) : (x : Int).tmod (k : Int) = (q : Int) := by subst h; rfl
theorem divN {x k q : Nat} (h : x / k = q) : (x : Int) / (k : Int) = (q : Int) := by subst h; rfl
theorem wi {q : Nat} (h : q ≤ 9223372036854775807) : IntKind.i64.wrap (q : Int) = (q : Int) := IntWalk.i64_in _ (by omega)
theorem wj {q : Nat} (h : q ≤ 9223372036854775807) : wrap64 (q : Int) = (q : Int) := IntWalk.wrap64_in _ (by omega)
theorem wu {q : Nat} (h : q ≤ 4294967295) : IntKind.u32.wrap (q : Int) = (q : Int) := IntWalk.u32_in _ (by omega)
theorem wv {q : Nat} (h : q ≤ 18446744073709551615) : IntKind.u64.wrap (q : Int) = (q : Int) := IntWalk.u64_in _ (by omega)
theorem and16 (z : Nat) : z &&& 65535 = z % 65536 := by
  have e : z &&& 65535 = z % 2 ^ 16 := Nat.and_two_pow_sub_one_eq_mod z 16
  rw [e]
theorem mul32_any (x y p h l : Nat) (w : World) (hx : x < 4294967296) (hy : y < 4294967296) (hp : x * y = p) (hh : p / 4294967296 = h) (hl : p % 4294967296 = l) : Calls Tryz.prog 144 #[.int .u32 x, .int .u32 y] w fun e w' => e = .returned (.tuple #[.int .u32 h, .int .u32 l]) ∧ w = w' := by
  have p1 : p < 18446744073709551616 := by
    have : x * y ≤ 4294967295 * 4294967295 := Nat.mul_le_mul (by omega) (by omega)
    omega
  have w1 : IntKind.u64.wrap (x : Int) = (x : Int) := wv (by omega)
  have w2 : IntKind.u64.wrap (y : Int) = (y : Int) := wv (by omega)
  have m : (x : Int) * (y : Int) = (p : Int) := by rw [← hp]; exact (Int.natCast_mul x y).symm
  have w3 : IntKind.u64.wrap (p : Int) = (p : Int) := wv (by omega)
  have h1 : (p : Int) / 4294967296 = (h : Int) := divN hh
  have w4 : IntKind.u64.wrap (h : Int) = (h : Int) := wv (by omega)
  have w5 : IntKind.u32.wrap (h : Int) = (h : Int) := wu (by omega)
  have w6 : IntKind.u32.wrap (p : Int) = (l : Int) := by rw [IntKind.wrap_u32, ← hl]; omega
  clear hp hh hl hx hy p1
  go_enter Tryz.func144, Tryz.ntmps144
  go_wp2
  go_returns
  exact ⟨rfl, rfl⟩

theorem adays_any (a d : Nat) (w : World) (ha : a < 18446744073709551616) (hd : a / 86400 = d) : Calls Tryz.prog 129 #[.int .u64 a] w fun e w' => e = .returned (.int .u64 d) ∧ w = w' := by
  have q : ((a : Int)).tdiv 86400 = (d : Int) := tdivN hd
  have w1 : IntKind.u64.wrap (d : Int) = (d : Int) := wv (by omega)
  clear hd
  go_enter Tryz.func129, Tryz.ntmps129
  go_wp2
  go_ret
  exact ⟨rfl, rfl⟩

theorem aweek_any (d r : Nat) (w : World) (hd : d < 1000000000000000000) (hr : (d + 3) % 7 = r) : Calls Tryz.prog 148 #[.int .u64 d] w fun e w' => e = .returned (.int .i64 r) ∧ w = w' := by
  have w1 : IntKind.u64.wrap ((d : Int) + 3) = (d : Int) + 3 := IntWalk.u64_in _ (by omega)
  have q : ((d : Int) + 3).tmod 7 = (r : Int) := by rw [Int.tmod_eq_emod_of_nonneg (by omega)]; omega
  have w2 : IntKind.i64.wrap (r : Int) = (r : Int) := wi (by omega)
  have w3 : wrap64 (r : Int) = (r : Int) := wj (by omega)
  clear hr
  go_enter Tryz.func148, Tryz.ntmps148
  go_wp2
  go_ret
  exact ⟨rfl, rfl⟩

/-- The days that are gone of a century of four-year rounds (times four, and three), the year in it, the day of the year, the month and the day of the month. -/
def cdN (d : Nat) : Nat := ((4 * d + 3) % 146097) ||| 3
def cyN (d : Nat) : Nat := 2939745 * cdN d / 4294967296
def ydN (d : Nat) : Nat := 2939745 * cdN d % 4294967296 / 2939745 / 4
def moN (y : Nat) : Nat := (2141 * y + 197913) / 65536
def mdN (y : Nat) : Nat := 1 + (2141 * y + 197913) % 65536 / 2141
theorem or3 (x : Nat) : x ||| 3 = 4 * (x / 4) + 3 := by
  apply Nat.eq_of_testBit_eq
  intro i
  rw [Nat.testBit_or]
  rw [show (3 : Nat) = 2 ^ 2 - 1 from rfl, Nat.testBit_two_pow_sub_one, show 4 * (x / 4) + (2 ^ 2 - 1) = 2 ^ 2 * (x / 4) + 3 by omega, Nat.testBit_two_pow_mul_add _ (by omega)]
  by_cases h : i < 2
  · simp only [h, decide_true, Bool.or_true, if_true]
    have : i = 0 ∨ i = 1 := by omega
    rcases this with rfl | rfl <;> rfl
  · simp only [h, decide_false, Bool.or_false, if_false]
    rw [show (4 : Nat) = 2 ^ 2 from rfl, Nat.testBit_div_two_pow]
    congr 1
    omega
theorem cdN_lt (d : Nat) : cdN d < 146100 := by unfold cdN; rw [or3]; omega
theorem ydN_lt (d : Nat) : ydN d ≤ 366 := by unfold ydN; omega
theorem mdN_le (y : Nat) : 1 ≤ mdN y ∧ mdN y ≤ 31 := by unfold mdN; omega

theorem asplit_any (d : Nat) (w : World) (hd : d < 1000000000000000000) : Calls Tryz.prog 130 #[.int .u64 d] w fun e w' => e = .returned (.tuple #[.int .u64 ((4 * d + 3) / 146097 : Nat), .int .i64 (cyN d : Nat), .int .i64 (ydN d : Nat)]) ∧ w = w' := by
  have hc := cdN_lt d
  have hy := ydN_lt d
  obtain ⟨x, hx⟩ : ∃ x, 4 * d + 3 = x := ⟨_, rfl⟩
  obtain ⟨q, hq⟩ : ∃ q, x / 146097 = q := ⟨_, rfl⟩
  obtain ⟨r, hr⟩ : ∃ r, x % 146097 = r := ⟨_, rfl⟩
  obtain ⟨c, hcd⟩ : ∃ c, cdN d = c := ⟨_, rfl⟩
  have hrc : r ||| 3 = c := by rw [← hcd, cdN, hx, hr]
  obtain ⟨p, hp⟩ : ∃ p, 2939745 * c = p := ⟨_, rfl⟩
  obtain ⟨h, hh⟩ : ∃ h, p / 4294967296 = h := ⟨_, rfl⟩
  obtain ⟨l, hl⟩ : ∃ l, p % 4294967296 = l := ⟨_, rfl⟩
  obtain ⟨u, hu⟩ : ∃ u, l / 2939745 = u := ⟨_, rfl⟩
  obtain ⟨v, hv⟩ : ∃ v, u / 4 = v := ⟨_, rfl⟩
  have e1 : cyN d = h := by rw [cyN, hcd, hp, hh]
  have e2 : ydN d = v := by rw [ydN, hcd, hp, hl, hu, hv]
  rw [hx, hq, e1, e2]
  rw [hcd] at hc
  rw [e2] at hy
  have xb : x ≤ 4000000000000000003 := by omega
  have qb : q ≤ 30000000000000 := by omega
  have rb : r < 146097 := by omega
  have pb : p < 429496729600000 := by omega
  have hb : h ≤ 100000 := by omega
  have lb : l < 4294967296 := by omega
  have ub : u ≤ 1461 := by omega
  have CM := hid (mul32_any 2939745 c p h l w (by omega) (by omega) hp hh hl)
  have t1 : (x : Int).tdiv 146097 = (q : Int) := tdivN hq
  have t2 : (x : Int).tmod 146097 = (r : Int) := tmodN hr
  have t3 : (l : Int).tdiv 2939745 = (u : Int) := tdivN hu
  have t4 : (u : Int).tdiv 4 = (v : Int) := tdivN hv
  clear hq hr hcd hp hh hl hu hv e1 e2
  have w1 : IntKind.u64.wrap (4 * (d : Int)) = 4 * (d : Int) := IntWalk.u64_in _ (by omega)
  have w2 : IntKind.u64.wrap (4 * (d : Int) + 3) = (x : Int) := by rw [IntWalk.u64_in _ (by omega)]; omega
  have b1 : bits .or .u32 (r : Int) 3 = (c : Int) := by
    have := Go.u32_or_nat r 3 (by omega) (by omega)
    rw [hrc] at this
    exact this
  clear hx hrc
  have w3 : IntKind.u64.wrap (q : Int) = (q : Int) := wv (by omega)
  have w4 : IntKind.u32.wrap (r : Int) = (r : Int) := wu (by omega)
  have w5 : IntKind.i64.wrap (h : Int) = (h : Int) := wi (by omega)
  have w6 : wrap64 (h : Int) = (h : Int) := wj (by omega)
  have w7 : IntKind.u32.wrap (u : Int) = (u : Int) := wu (by omega)
  have w8 : IntKind.u32.wrap (v : Int) = (v : Int) := wu (by omega)
  have w9 : IntKind.i64.wrap (v : Int) = (v : Int) := wi (by omega)
  have wa : wrap64 (v : Int) = (v : Int) := wj (by omega)
  clear hc hy xb qb rb pb hb lb ub
  go_enter Tryz.func130, Tryz.ntmps130
  go_wp2_with (go_at_call 144; refine CM.out.mono ?_; rintro e w' ⟨rfl, rfl⟩)
  go_returns
  exact ⟨rfl, rfl⟩

set_option maxHeartbeats 1600000 in
theorem ysplit_any (y : Nat) (w : World) (hy : y ≤ 400) : Calls Tryz.prog 131 #[.int .i64 y] w fun e w' => e = .returned (.tuple #[.int .i64 (moN y : Nat), .int .i64 (mdN y : Nat)]) ∧ w = w' := by
  obtain ⟨x, hx⟩ : ∃ x, 2141 * y = x := ⟨_, rfl⟩
  obtain ⟨z, hz⟩ : ∃ z, x + 197913 = z := ⟨_, rfl⟩
  obtain ⟨m, hm⟩ : ∃ m, z / 65536 = m := ⟨_, rfl⟩
  obtain ⟨r, hr⟩ : ∃ r, z % 65536 = r := ⟨_, rfl⟩
  obtain ⟨q, hq⟩ : ∃ q, r / 2141 = q := ⟨_, rfl⟩
  have e1 : moN y = m := by rw [moN, hx, hz, hm]
  have e2 : mdN y = 1 + q := by rw [mdN, hx, hz, hr, hq]
  rw [e1, e2]
  obtain ⟨v, hv⟩ : ∃ v, 1 + q = v := ⟨_, rfl⟩
  rw [hv]
  have yb : y ≤ 4294967295 := by omega
  have xb : x ≤ 4294967295 := by omega
  have zb : z ≤ 4294967295 := by omega
  have zc : z < 4294967296 := by omega
  have mb : m ≤ 16 := by omega
  have mb' : m ≤ 4294967295 := by omega
  have mb2 : m ≤ 9223372036854775807 := by omega
  have qb : q ≤ 30 := by omega
  have qb' : q ≤ 4294967295 := by omega
  have qb2 : q ≤ 9223372036854775807 := by omega
  have vb : v ≤ 9223372036854775807 := by omega
  have m1 : (2141 : Int) * (y : Int) = (x : Int) := by omega
  have m2 : (x : Int) + 197913 = (z : Int) := by omega
  have a1 : (1 : Int) + (q : Int) = (v : Int) := by omega
  have t1 : (z : Int) / 65536 = (m : Int) := divN hm
  have t2 : (r : Int).tdiv 2141 = (q : Int) := tdivN hq
  have h2 := and16 z
  rw [hr] at h2
  have b1 : bits .and .u32 (z : Int) 65535 = (r : Int) := (Go.u32_and_nat z 65535 zc (by decide)).trans (congrArg Int.ofNat h2)
  have w1 := wu yb
  have w2 := wu xb
  have w3 := wu zb
  have w4 := wu mb'
  have w5 := wi mb2
  have w6 := wj mb2
  have w7 := wu qb'
  have w8 := wi qb2
  have w9 := wj qb2
  have wa := wi vb
  have wb := wj vb
  clear hx hz hm hr hq hv e1 e2 yb xb zb zc mb mb' mb2 qb qb' qb2 vb h2 hy
  go_enter Tryz.func131, Tryz.ntmps131
  go_wp2
  go_returns
  exact ⟨rfl, rfl⟩
end Go.Proofs.YtjbafphoemibaaaGreatDoor
