/- The absolute day of a date. Walked. -/
import Derived.Test.YtfmagbkcfeckhaaTimeE
set_option linter.unusedVariables false
set_option linter.unusedSimpArgs false
namespace Go.Proofs.Ytfmagbkcfeckhaa
open Go.RowKit

theorem dtad_walk (Y M D : Int) (j m y cum C cy q1 q2 s : Nat) (t u r : Int) (w : World) (hM1 : 1 ≤ M) (hM2 : M ≤ 12) (hY1 : -1000 ≤ Y) (hY2 : Y ≤ 50000) (hD1 : 1 ≤ D) (hD2 : D ≤ 40)
    (hj : j = if M < 3 then 1 else 0) (hm : (m : Int) = M + 12 * j) (hy : (y : Int) = Y - j + 292277022400) (hcum : cumM m = cum) (hC : y / 100 = C) (hcy : y % 100 = cy) (hq1 : 146097 * C / 4 = q1) (hq2 : 1461 * cy / 4 = q2) (hs : q2 + cum = s) (hr : (q1 : Int) + s + D - 1 = r) :
    Calls Try.prog 118 #[.int .i64 Y, .int .i64 M, .int .i64 D] w fun e w' => e = .returned (.int .u64 r) ∧ w = w' := by
  -- bounds
  have jb : j ≤ 1 := by rw [hj]; split <;> omega
  have mb1 : 3 ≤ m := by rw [hj] at hm; split at hm <;> omega
  have mb : m ≤ 14 := by rw [hj] at hm; split at hm <;> omega
  have yb : y ≤ 300000000000 := by omega
  have yb1 : 290000000000 ≤ y := by omega
  have Cb : C ≤ 3000000000 := by omega
  have cyb : cy ≤ 99 := by omega
  have q1b : q1 ≤ 200000000000000 := by omega
  have q1b1 : 1000000 ≤ q1 := by omega
  have q2b : q2 ≤ 40000 := by omega
  have cb : cum ≤ 400 := by rw [← hcum]; unfold cumM; omega
  have sb : s ≤ 50000 := by omega
  -- values
  obtain ⟨a, ha⟩ : ∃ a : Nat, 979 * m = a := ⟨_, rfl⟩
  obtain ⟨b, hb⟩ : ∃ b : Nat, a - 2919 = b := ⟨_, rfl⟩
  have ab : 2919 ≤ a ∧ a ≤ 20000 := by omega
  have bb : b ≤ 20000 := by omega
  have hbc : b / 32 = cum := by rw [← hcum, cumM, ha, hb]
  obtain ⟨n12, hn12⟩ : ∃ n : Nat, 12 * j = n := ⟨_, rfl⟩
  have f1 : (12 : Int) * (j : Int) = (n12 : Int) := by omega
  have f2 : M + (n12 : Int) = (m : Int) := by omega
  have f3 : (979 : Int) * (m : Int) = (a : Int) := by omega
  have f4 : (a : Int) - 2919 = (b : Int) := by omega
  have f5 : (b : Int) / 32 = (cum : Int) := divN hbc
  have f6 : (y : Int).tdiv 100 = (C : Int) := tdivN hC
  have f7 : (y : Int).tmod 100 = (cy : Int) := tmodN hcy
  obtain ⟨c1, hc1⟩ : ∃ c : Nat, 1461 * cy = c := ⟨_, rfl⟩
  have f8 : (1461 : Int) * (cy : Int) = (c1 : Int) := by omega
  have f9 : (c1 : Int).tdiv 4 = (q2 : Int) := tdivN (by rw [← hc1]; exact hq2)
  obtain ⟨c2, hc2⟩ : ∃ c : Nat, 146097 * C = c := ⟨_, rfl⟩
  have fa : (146097 : Int) * (C : Int) = (c2 : Int) := by omega
  have fb : (c2 : Int).tdiv 4 = (q1 : Int) := tdivN (by rw [← hc2]; exact hq1)
  have fc : (q2 : Int) + (cum : Int) = (s : Int) := by omega
  obtain ⟨x1, hx1⟩ : ∃ x : Int, (s : Int) + D = x := ⟨_, rfl⟩
  obtain ⟨x2, hx2⟩ : ∃ x : Int, x1 - 1 = x := ⟨_, rfl⟩
  have fd : (q1 : Int) + x2 = r := by omega
  have rb : 0 ≤ r ∧ r ≤ 18446744073709551615 := by omega
  have x1b : 0 ≤ x1 ∧ x1 ≤ 100000 := by omega
  have x2b : 0 ≤ x2 ∧ x2 ≤ 100000 := by omega
  obtain ⟨z, hz⟩ : ∃ z, IntKind.u64.wrap Y = z := ⟨_, rfl⟩
  have hz' : Y % 18446744073709551616 = z := by rw [← hz, IntKind.wrap_u64]
  obtain ⟨z2, hz2⟩ : ∃ z2, IntKind.u64.wrap (z - (j : Int)) = z2 := ⟨_, rfl⟩
  have hz2' : (z - (j : Int)) % 18446744073709551616 = z2 := by rw [← hz2, IntKind.wrap_u64]
  have hz3 : IntKind.u64.wrap (z2 + 292277022400) = (y : Int) := by
    clear hz hz2
    rw [IntKind.wrap_u64]
    omega
  clear hz' hz2'
  have bj : (j : Int) = if M < 3 then 1 else 0 := by rw [hj]; split <;> rfl
  have wj1 : IntKind.u64.wrap (j : Int) = (j : Int) := wv (by clear hz hz2 hz3; omega)
  have wM : IntKind.u32.wrap M = M := IntWalk.u32_in _ (by clear hz hz2 hz3 wj1; omega)
  have w12 : IntKind.u32.wrap (n12 : Int) = (n12 : Int) := wu (by clear hz hz2 hz3 wj1 wM; omega)
  have wm : IntKind.u32.wrap (m : Int) = (m : Int) := wu (by clear hz hz2 hz3 wj1 wM w12; omega)
  have wa : IntKind.u32.wrap (a : Int) = (a : Int) := wu (by clear hz hz2 hz3 wj1 wM w12 wm; omega)
  have wb : IntKind.u32.wrap (b : Int) = (b : Int) := wu (by clear hz hz2 hz3 wj1 wM w12 wm wa; omega)
  have wc : IntKind.u32.wrap (cum : Int) = (cum : Int) := wu (by clear hz hz2 hz3 wj1 wM w12 wm wa wb; omega)
  have wC : IntKind.u64.wrap (C : Int) = (C : Int) := wv (by clear hz hz2 hz3 wj1 wM w12 wm wa wb wc; omega)
  have wcy : IntKind.u64.wrap (cy : Int) = (cy : Int) := wv (by clear hz hz2 hz3 wj1 wM w12 wm wa wb wc wC; omega)
  have wcy2 : IntKind.u32.wrap (cy : Int) = (cy : Int) := wu (by clear hz hz2 hz3 wj1 wM w12 wm wa wb wc wC wcy; omega)
  have wc1 : IntKind.u32.wrap (c1 : Int) = (c1 : Int) := wu (by clear hz hz2 hz3 wj1 wM w12 wm wa wb wc wC wcy wcy2; omega)
  have wq2 : IntKind.u32.wrap (q2 : Int) = (q2 : Int) := wu (by clear hz hz2 hz3 wj1 wM w12 wm wa wb wc wC wcy wcy2 wc1; omega)
  have wc2 : IntKind.u64.wrap (c2 : Int) = (c2 : Int) := wv (by clear hz hz2 hz3 wj1 wM w12 wm wa wb wc wC wcy wcy2 wc1 wq2; omega)
  have wq1 : IntKind.u64.wrap (q1 : Int) = (q1 : Int) := wv (by clear hz hz2 hz3 wj1 wM w12 wm wa wb wc wC wcy wcy2 wc1 wq2 wc2; omega)
  have ws : IntKind.u32.wrap (s : Int) = (s : Int) := wu (by clear hz hz2 hz3 wj1 wM w12 wm wa wb wc wC wcy wcy2 wc1 wq2 wc2 wq1; omega)
  have ws2 : IntKind.i64.wrap (s : Int) = (s : Int) := wi (by clear hz hz2 hz3 wj1 wM w12 wm wa wb wc wC wcy wcy2 wc1 wq2 wc2 wq1 ws; omega)
  have ws3 : wrap64 (s : Int) = (s : Int) := wj (by clear hz hz2 hz3 wj1 wM w12 wm wa wb wc wC wcy wcy2 wc1 wq2 wc2 wq1 ws ws2; omega)
  have wx1 : IntKind.i64.wrap ((s : Int) + D) = x1 := by rw [hx1]; exact IntWalk.i64_in _ ⟨by clear hz hz2 hz3 wj1 wM w12 wm wa wb wc wC wcy wcy2 wc1 wq2 wc2 wq1 ws ws2 ws3; omega, by clear hz hz2 hz3 wj1 wM w12 wm wa wb wc wC wcy wcy2 wc1 wq2 wc2 wq1 ws ws2 ws3; omega⟩
  have wx1' : wrap64 ((s : Int) + D) = x1 := by unfold wrap64; rw [← wx1, IntKind.wrap_i64]
  have wx2 : IntKind.i64.wrap (x1 - 1) = x2 := by rw [hx2]; exact IntWalk.i64_in _ ⟨by clear hz hz2 hz3 wj1 wM w12 wm wa wb wc wC wcy wcy2 wc1 wq2 wc2 wq1 ws ws2 ws3 wx1 wx1'; omega, by clear hz hz2 hz3 wj1 wM w12 wm wa wb wc wC wcy wcy2 wc1 wq2 wc2 wq1 ws ws2 ws3 wx1 wx1'; omega⟩
  have wx2' : wrap64 (x1 - 1) = x2 := by unfold wrap64; rw [← wx2, IntKind.wrap_i64]
  have wx3 : IntKind.u64.wrap x2 = x2 := IntWalk.u64_in _ ⟨by clear hz hz2 hz3 wj1 wM w12 wm wa wb wc wC wcy wcy2 wc1 wq2 wc2 wq1 ws ws2 ws3 wx1 wx1' wx2 wx2'; omega, by clear hz hz2 hz3 wj1 wM w12 wm wa wb wc wC wcy wcy2 wc1 wq2 wc2 wq1 ws ws2 ws3 wx1 wx1' wx2 wx2'; omega⟩
  have wr : IntKind.u64.wrap r = r := IntWalk.u64_in _ rb
  clear hx1 hx2 rb x1b x2b hc1 hc2 ha hb ab bb hbc hn12 jb mb1 mb yb yb1 Cb cyb q1b q1b1 q2b cb sb hr hs hq1 hq2 hC hcy hcum hy hm hD1 hD2 hY1 hY2
  by_cases h3 : M < 3
  · rw [if_pos h3] at hj
    subst hj
    obtain rfl : n12 = 12 := by clear wM w12 wm wa wb wc wC wcy wcy2 wc1 wq2 wc2 wq1 ws ws2 ws3 wx1 wx1' wx2 wx2' wx3 wr hz hz2 hz3 wj1; omega
    have f2' : M + 12 = (m : Int) := f2
    have hz2' : IntKind.u64.wrap (z - 1) = z2 := hz2
    clear bj hM1 hM2 f1 f2 hz2 w12 wj1
    go_enter Try.func118, Try.ntmps118
    go_wp2
    go_ret
    exact ⟨rfl, rfl⟩
  · rw [if_neg h3] at hj
    subst hj
    obtain rfl : n12 = 0 := by clear wM w12 wm wa wb wc wC wcy wcy2 wc1 wq2 wc2 wq1 ws ws2 ws3 wx1 wx1' wx2 wx2' wx3 wr hz hz2 hz3 wj1; omega
    obtain rfl : M = (m : Int) := by rw [← f2]; simp
    have hz2' : IntKind.u64.wrap z = z2 := by rw [← hz2]; simp
    clear bj hM1 hM2 f1 f2 hz2 w12 wj1
    go_enter Try.func118, Try.ntmps118
    go_wp2
    go_ret
    exact ⟨rfl, rfl⟩

theorem dtad_any (Y M D : Int) (w : World) (hM1 : 1 ≤ M) (hM2 : M ≤ 12) (hY1 : -1000 ≤ Y) (hY2 : Y ≤ 50000) (hD1 : 1 ≤ D) (hD2 : D ≤ 40) :
    Calls Try.prog 118 #[.int .i64 Y, .int .i64 M, .int .i64 D] w fun e w' => e = .returned (.int .u64 (dayOf Y M D + 106751991073400)) ∧ w = w' := by
  obtain ⟨j, hj⟩ : ∃ j : Nat, j = if M < 3 then 1 else 0 := ⟨_, rfl⟩
  have jb : j ≤ 1 := by rw [hj]; split <;> omega
  obtain ⟨m, hm⟩ := Int.eq_ofNat_of_zero_le (show 0 ≤ M + 12 * (j : Int) by omega)
  obtain ⟨y, hy⟩ := Int.eq_ofNat_of_zero_le (show 0 ≤ Y - (j : Int) + 292277022400 by omega)
  have e := abs_days Y M D hM1 hM2 (by omega) (by omega) hD1 hD2 j m y hj hm.symm hy.symm
  refine dtad_walk Y M D j m y _ _ _ _ _ _ 0 0 _ w hM1 hM2 hY1 hY2 hD1 hD2 hj hm.symm hy.symm rfl rfl rfl rfl rfl rfl ?_
  rw [← e]
  omega
end Go.Proofs.Ytfmagbkcfeckhaa
