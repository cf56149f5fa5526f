/- The law FnCronItemFrom: "a/k" is the set of a, a + k and so on up to the greatest value, "*/k" that of the least value, it and k and so on. Joined. -/
import Derived.Test.YtcaabeocflfboaaDoorItem
set_option linter.unusedVariables false
set_option linter.unusedSimpArgs false
namespace Go.Proofs.YtcaabeocflfboaaDoor
open Go.RowKit

theorem itemIn_of (s : ByteArray) (lo hi : Nat) (v : Int) (h : ∀ w, Calls Tryd.prog 36 #[.string s, .agg #[.int .u64 lo, .int .u64 hi, .map none]] w fun e w' => ∃ v' : Int, e = .returned (.tuple #[.int .u64 v', .nilIface]) ∧ v' = v ∧ Below w.heap.size w w') (w : World) :
    Calls Tryd.prog 10 #[.int .u64 lo, .int .u64 hi, .string s] w fun e w' => e = .returned (.tuple #[.int .u64 v, .bool true]) ∧ Below w.heap.size w w' := by
  have H := hid h
  clear h
  go_enter Tryd.func10, Tryd.ntmps10
  go_wp2_with (first | (go_at_call 25; go_in) | (go_at_call 24; go_in) | (go_at_call 36; refine (H.out _).mono ?_; rintro e w' ⟨v', rfl, rfl, hb⟩; replace hb := hid hb))
  go_returns
  exact ⟨rfl, hb.out⟩

theorem bits_nat (lo hi st : Nat) (w : World) (h1 : lo ≤ hi) (h2 : hi ≤ 63) (h3 : 1 ≤ st) (h4 : st ≤ 4294967296) : Calls Tryd.prog 11 #[.int .u64 lo, .int .u64 hi, .int .u64 st] w fun e w' => e = .returned (.int .u64 (gb lo hi st : Nat)) ∧ w = w' := by
  have := cronBits_int lo hi st w (by omega) (by omega) (by omega) (by omega) (by omega)
  simpa using this

theorem dec_free (c : UInt8) (hc : isDig c = false) (n : Nat) : c ∉ (dec n).toList := by
  intro hm
  rw [dec_list] at hm
  have := List.all_eq_true.1 (dec_digits n).1 c hm
  rw [hc] at this; cases this
theorem dec_atoi (n : Nat) (h : n ≤ 9223372036854775807) : Lib.atoiAll (dec n).toList = .ok (n : Int) := by
  have := zt_atoi 0 n h
  rwa [zt_zero] at this
theorem slash_list : (⟨#[47]⟩ : ByteArray).toList = [47] := by rw [ByteArray.toList_eq]
theorem head_list : (⟨#[42, 47]⟩ : ByteArray).toList = [42, 47] := by rw [ByteArray.toList_eq]
theorem cut_num (a k : Nat) : cut 47 (dec a ++ ⟨#[47]⟩ ++ dec k).toList = [(dec a).toList, (dec k).toList] := by
  rw [app_list, app_list, slash_list, List.append_assoc, show [47] ++ (dec k).toList = 47 :: (dec k).toList from rfl, cut_at 47 _ _ (dec_free 47 (by decide) a), cut_none 47 _ (dec_free 47 (by decide) k)]
theorem cut_star (k : Nat) : cut 47 ((⟨#[42, 47]⟩ : ByteArray) ++ dec k).toList = [(⟨#[42]⟩ : ByteArray).toList, (dec k).toList] := by
  rw [app_list, head_list, star_list, show [42, 47] ++ (dec k).toList = [42] ++ 47 :: (dec k).toList from rfl, cut_at 47 _ _ (by decide), cut_none 47 _ (dec_free 47 (by decide) k)]
theorem dec_not (c : UInt8) (hc : isDig c = false) (n : Nat) : ((dec n).toList == [c]) = false := by
  rw [beq_eq_false_iff_ne]
  intro e
  exact dec_free c hc n (by rw [e]; simp)
theorem dec_small (n : Nat) (h : n < 18446744073709551616) : (dec n).size ≤ 2147483647 := by have := dec_size n h; omega

set_option maxHeartbeats 1600000 in
set_option maxRecDepth 100000 in
theorem from_one (lo hi a k : Nat) (X Y : ByteArray) (w : World) (b0 : (lo : Int) ≤ (hi : Int)) (b1 : (hi : Int) ≤ 62) (b2 : ¬ (a : Int) < (lo : Int)) (b3 : ¬ (hi : Int) < (a : Int)) (b4 : ¬ (k : Int) < 1) (b5 : ¬ (2147483648 : Int) < (k : Int)) (hk : ((k : Int) == 1) = true)
    (z1 : X.size ≤ 20) (z2 : Y.size ≤ 20) (ht : Tab w)
    (hI1 : Hid (∀ w, Tab w → Calls Tryd.prog 7 #[.int .i64 a] w fun e w' => e = .returned (.string X) ∧ Below w.heap.size w w')) (hI2 : Hid (∀ w, Tab w → Calls Tryd.prog 7 #[.int .i64 k] w fun e w' => e = .returned (.string Y) ∧ Below w.heap.size w w'))
    (hC1 : Hid (∀ w, Calls Tryd.prog 10 #[.int .u64 lo, .int .u64 hi, .string (X ++ ⟨#[47]⟩ ++ Y)] w fun e w' => e = .returned (.tuple #[.int .u64 (gb a hi k : Nat), .bool true]) ∧ Below w.heap.size w w'))
    (hC2 : Hid (∀ w, Calls Tryd.prog 10 #[.int .u64 lo, .int .u64 hi, .string (⟨#[42, 47]⟩ ++ Y)] w fun e w' => e = .returned (.tuple #[.int .u64 ((gb lo hi k ||| 9223372036854775808 : Nat) : Int), .bool true]) ∧ Below w.heap.size w w'))
    (hQ : Hid (∀ w, Calls Tryd.prog 11 #[.int .u64 lo, .int .u64 hi, .int .u64 k] w fun e w' => e = .returned (.int .u64 (gb lo hi k : Nat)) ∧ w = w')) (hP : Hid (∀ w, Calls Tryd.prog 11 #[.int .u64 a, .int .u64 hi, .int .u64 k] w fun e w' => e = .returned (.int .u64 (gb a hi k : Nat)) ∧ w = w'))
    (hor : bits .or .u64 ((gb lo hi k : Nat) : Int) 9223372036854775808 = ((gb lo hi k ||| 9223372036854775808 : Nat) : Int)) :
    Calls Tryd.prog 4 #[.int .u64 lo, .int .u64 hi, .int .i64 a, .int .i64 k] w fun e w' => e = .returned (.bool true) ∧ Below w.heap.size w w' := by
  have w1 : IntKind.i64.wrap (lo : Int) = (lo : Int) := IntWalk.i64_in _ (by omega)
  have w2 : IntKind.i64.wrap (hi : Int) = (hi : Int) := IntWalk.i64_in _ (by omega)
  have w3 : IntKind.u64.wrap (k : Int) = (k : Int) := IntWalk.u64_in _ (by omega)
  have w4 : IntKind.u64.wrap (a : Int) = (a : Int) := IntWalk.u64_in _ (by omega)
  have c1 : ¬ 9223372036854775807 < X.size + 1 := by omega
  have c2 : ¬ 9223372036854775807 < X.size + 1 + Y.size := by omega
  have c3 : ¬ 9223372036854775807 < 2 + Y.size := by omega
  have HT := hid ht
  have HB := hid (Below.refl w.heap.size w)
  clear ht z1 z2
  go_enter Tryd.func4, Tryd.ntmps4
  go_wp2_with (go_at_call 9; go_in)
  go_at_call 7
  refine (hI1.out _ HT.out).mono ?_
  rintro e u0 ⟨rfl, hb⟩
  replace HT := hid (tab_below HT.out hb)
  replace HB := hid (bt HB.out hb)
  clear hb
  go_wp2_with fail
  go_at_call 7
  refine (hI2.out _ HT.out).mono ?_
  rintro e u1 ⟨rfl, hb⟩
  replace HT := hid (tab_below HT.out hb)
  replace HB := hid (bt HB.out hb)
  clear hb
  go_wp2_with fail
  go_at_call 10
  refine (hC1.out _).mono ?_
  rintro e u2 ⟨rfl, hb⟩
  replace HT := hid (tab_below HT.out hb)
  replace HB := hid (bt HB.out hb)
  clear hb
  go_wp2_with fail
  go_at_call 7
  refine (hI2.out _ HT.out).mono ?_
  rintro e u3 ⟨rfl, hb⟩
  replace HT := hid (tab_below HT.out hb)
  replace HB := hid (bt HB.out hb)
  clear hb
  go_wp2_with fail
  go_at_call 10
  refine (hC2.out _).mono ?_
  rintro e u4 ⟨rfl, hb⟩
  replace HT := hid (tab_below HT.out hb)
  replace HB := hid (bt HB.out hb)
  clear hb
  go_wp2_with fail
  go_at_call 11
  refine (hQ.out _).mono ?_
  rintro e u7 ⟨rfl, rfl⟩
  go_wp2_with fail
  go_at_call 11
  refine (hP.out _).mono ?_
  rintro e u8 ⟨rfl, rfl⟩
  go_wp2_with fail
  go_ret
  exact ⟨ret_b (by simp), HB.out⟩

set_option maxHeartbeats 1600000 in
set_option maxRecDepth 100000 in
theorem from_more (lo hi a k : Nat) (X Y : ByteArray) (w : World) (b0 : (lo : Int) ≤ (hi : Int)) (b1 : (hi : Int) ≤ 62) (b2 : ¬ (a : Int) < (lo : Int)) (b3 : ¬ (hi : Int) < (a : Int)) (b4 : ¬ (k : Int) < 1) (b5 : ¬ (2147483648 : Int) < (k : Int)) (hk : ((k : Int) == 1) = false)
    (z1 : X.size ≤ 20) (z2 : Y.size ≤ 20) (ht : Tab w)
    (hI1 : Hid (∀ w, Tab w → Calls Tryd.prog 7 #[.int .i64 a] w fun e w' => e = .returned (.string X) ∧ Below w.heap.size w w')) (hI2 : Hid (∀ w, Tab w → Calls Tryd.prog 7 #[.int .i64 k] w fun e w' => e = .returned (.string Y) ∧ Below w.heap.size w w'))
    (hC1 : Hid (∀ w, Calls Tryd.prog 10 #[.int .u64 lo, .int .u64 hi, .string (X ++ ⟨#[47]⟩ ++ Y)] w fun e w' => e = .returned (.tuple #[.int .u64 (gb a hi k : Nat), .bool true]) ∧ Below w.heap.size w w'))
    (hC2 : Hid (∀ w, Calls Tryd.prog 10 #[.int .u64 lo, .int .u64 hi, .string (⟨#[42, 47]⟩ ++ Y)] w fun e w' => e = .returned (.tuple #[.int .u64 ((gb lo hi k : Nat) : Int), .bool true]) ∧ Below w.heap.size w w'))
    (hQ : Hid (∀ w, Calls Tryd.prog 11 #[.int .u64 lo, .int .u64 hi, .int .u64 k] w fun e w' => e = .returned (.int .u64 (gb lo hi k : Nat)) ∧ w = w')) (hP : Hid (∀ w, Calls Tryd.prog 11 #[.int .u64 a, .int .u64 hi, .int .u64 k] w fun e w' => e = .returned (.int .u64 (gb a hi k : Nat)) ∧ w = w'))
    (hor : bits .or .u64 ((gb lo hi k : Nat) : Int) 9223372036854775808 = ((gb lo hi k ||| 9223372036854775808 : Nat) : Int)) :
    Calls Tryd.prog 4 #[.int .u64 lo, .int .u64 hi, .int .i64 a, .int .i64 k] w fun e w' => e = .returned (.bool true) ∧ Below w.heap.size w w' := by
  have w1 : IntKind.i64.wrap (lo : Int) = (lo : Int) := IntWalk.i64_in _ (by omega)
  have w2 : IntKind.i64.wrap (hi : Int) = (hi : Int) := IntWalk.i64_in _ (by omega)
  have w3 : IntKind.u64.wrap (k : Int) = (k : Int) := IntWalk.u64_in _ (by omega)
  have w4 : IntKind.u64.wrap (a : Int) = (a : Int) := IntWalk.u64_in _ (by omega)
  have c1 : ¬ 9223372036854775807 < X.size + 1 := by omega
  have c2 : ¬ 9223372036854775807 < X.size + 1 + Y.size := by omega
  have c3 : ¬ 9223372036854775807 < 2 + Y.size := by omega
  have HT := hid ht
  have HB := hid (Below.refl w.heap.size w)
  clear ht z1 z2
  go_enter Tryd.func4, Tryd.ntmps4
  go_wp2_with (go_at_call 9; go_in)
  go_at_call 7
  refine (hI1.out _ HT.out).mono ?_
  rintro e u0 ⟨rfl, hb⟩
  replace HT := hid (tab_below HT.out hb)
  replace HB := hid (bt HB.out hb)
  clear hb
  go_wp2_with fail
  go_at_call 7
  refine (hI2.out _ HT.out).mono ?_
  rintro e u1 ⟨rfl, hb⟩
  replace HT := hid (tab_below HT.out hb)
  replace HB := hid (bt HB.out hb)
  clear hb
  go_wp2_with fail
  go_at_call 10
  refine (hC1.out _).mono ?_
  rintro e u2 ⟨rfl, hb⟩
  replace HT := hid (tab_below HT.out hb)
  replace HB := hid (bt HB.out hb)
  clear hb
  go_wp2_with fail
  go_at_call 7
  refine (hI2.out _ HT.out).mono ?_
  rintro e u3 ⟨rfl, hb⟩
  replace HT := hid (tab_below HT.out hb)
  replace HB := hid (bt HB.out hb)
  clear hb
  go_wp2_with fail
  go_at_call 10
  refine (hC2.out _).mono ?_
  rintro e u4 ⟨rfl, hb⟩
  replace HT := hid (tab_below HT.out hb)
  replace HB := hid (bt HB.out hb)
  clear hb
  go_wp2_with fail
  go_at_call 11
  refine (hQ.out _).mono ?_
  rintro e u7 ⟨rfl, rfl⟩
  go_wp2_with fail
  go_at_call 11
  refine (hP.out _).mono ?_
  rintro e u8 ⟨rfl, rfl⟩
  go_wp2_with fail
  go_ret
  exact ⟨ret_b (by simp), HB.out⟩

theorem from_out_b (lo hi : Nat) (a k : Int) (w : World) (b0 : ¬ (lo : Int) ≤ (hi : Int)) : Calls Tryd.prog 4 #[.int .u64 lo, .int .u64 hi, .int .i64 a, .int .i64 k] w fun e w' => e = .returned (.bool true) ∧ Below w.heap.size w w' := by
  go_enter Tryd.func4, Tryd.ntmps4
  go_wp2_with (go_at_call 9; go_in)
  go_ret
  exact ⟨rfl, Below.refl _ _⟩

theorem from_out_h (lo hi : Nat) (a k : Int) (w : World) (b0 : (lo : Int) ≤ (hi : Int)) (b1 : ¬ (hi : Int) ≤ 62) : Calls Tryd.prog 4 #[.int .u64 lo, .int .u64 hi, .int .i64 a, .int .i64 k] w fun e w' => e = .returned (.bool true) ∧ Below w.heap.size w w' := by
  go_enter Tryd.func4, Tryd.ntmps4
  go_wp2_with (go_at_call 9; go_in)
  go_ret
  exact ⟨rfl, Below.refl _ _⟩

theorem from_out_l (lo hi : Nat) (a k : Int) (w : World) (b0 : (lo : Int) ≤ (hi : Int)) (b1 : (hi : Int) ≤ 62) (w1 : IntKind.i64.wrap (lo : Int) = (lo : Int)) (w2 : IntKind.i64.wrap (hi : Int) = (hi : Int)) (b2 : a < (lo : Int)) : Calls Tryd.prog 4 #[.int .u64 lo, .int .u64 hi, .int .i64 a, .int .i64 k] w fun e w' => e = .returned (.bool true) ∧ Below w.heap.size w w' := by
  go_enter Tryd.func4, Tryd.ntmps4
  go_wp2_with (go_at_call 9; go_in)
  go_ret
  exact ⟨rfl, Below.refl _ _⟩

theorem from_out_g (lo hi : Nat) (a k : Int) (w : World) (b0 : (lo : Int) ≤ (hi : Int)) (b1 : (hi : Int) ≤ 62) (w1 : IntKind.i64.wrap (lo : Int) = (lo : Int)) (w2 : IntKind.i64.wrap (hi : Int) = (hi : Int)) (b2 : ¬ a < (lo : Int)) (b3 : (hi : Int) < a) : Calls Tryd.prog 4 #[.int .u64 lo, .int .u64 hi, .int .i64 a, .int .i64 k] w fun e w' => e = .returned (.bool true) ∧ Below w.heap.size w w' := by
  go_enter Tryd.func4, Tryd.ntmps4
  go_wp2_with (go_at_call 9; go_in)
  go_ret
  exact ⟨rfl, Below.refl _ _⟩

theorem from_out_s (lo hi : Nat) (a k : Int) (w : World) (b0 : (lo : Int) ≤ (hi : Int)) (b1 : (hi : Int) ≤ 62) (w1 : IntKind.i64.wrap (lo : Int) = (lo : Int)) (w2 : IntKind.i64.wrap (hi : Int) = (hi : Int)) (b2 : ¬ a < (lo : Int)) (b3 : ¬ (hi : Int) < a) (b4 : k < 1) : Calls Tryd.prog 4 #[.int .u64 lo, .int .u64 hi, .int .i64 a, .int .i64 k] w fun e w' => e = .returned (.bool true) ∧ Below w.heap.size w w' := by
  go_enter Tryd.func4, Tryd.ntmps4
  go_wp2_with (go_at_call 9; go_in)
  go_ret
  exact ⟨rfl, Below.refl _ _⟩

theorem from_out_t (lo hi : Nat) (a k : Int) (w : World) (b0 : (lo : Int) ≤ (hi : Int)) (b1 : (hi : Int) ≤ 62) (w1 : IntKind.i64.wrap (lo : Int) = (lo : Int)) (w2 : IntKind.i64.wrap (hi : Int) = (hi : Int)) (b2 : ¬ a < (lo : Int)) (b3 : ¬ (hi : Int) < a) (b4 : ¬ k < 1) (b5 : 2147483648 < k) : Calls Tryd.prog 4 #[.int .u64 lo, .int .u64 hi, .int .i64 a, .int .i64 k] w fun e w' => e = .returned (.bool true) ∧ Below w.heap.size w w' := by
  go_enter Tryd.func4, Tryd.ntmps4
  go_wp2_with (go_at_call 9; go_in)
  go_ret
  exact ⟨rfl, Below.refl _ _⟩

theorem fnCronItemFrom_walk (l h a k : Int) (w : World) (wl : (Lit.int .u64 l).wf = true) (wh : (Lit.int .u64 h).wf = true) (wa : (Lit.int .i64 a).wf = true) (wk : (Lit.int .i64 k).wf = true) (ht : Tab w) :
    Calls Tryd.prog 4 #[.int .u64 l, .int .u64 h, .int .i64 a, .int .i64 k] w fun e w' => e = .returned (.bool true) ∧ Below w.heap.size w w' := by
  have bl := wf_u64 wl
  have bh := wf_u64 wh
  obtain ⟨lo, rfl⟩ := Int.eq_ofNat_of_zero_le bl.1
  obtain ⟨hi, rfl⟩ := Int.eq_ofNat_of_zero_le bh.1
  by_cases b0 : (lo : Int) ≤ (hi : Int)
  case neg => exact from_out_b lo hi a k w b0
  by_cases b1 : (hi : Int) ≤ 62
  case neg => exact from_out_h lo hi a k w b0 b1
  have w1 : IntKind.i64.wrap (lo : Int) = (lo : Int) := IntWalk.i64_in _ (by omega)
  have w2 : IntKind.i64.wrap (hi : Int) = (hi : Int) := IntWalk.i64_in _ (by omega)
  by_cases b2 : a < (lo : Int)
  · exact from_out_l lo hi a k w b0 b1 w1 w2 b2
  by_cases b3 : (hi : Int) < a
  · exact from_out_g lo hi a k w b0 b1 w1 w2 b2 b3
  by_cases b4 : k < 1
  · exact from_out_s lo hi a k w b0 b1 w1 w2 b2 b3 b4
  by_cases b5 : 2147483648 < k
  · exact from_out_t lo hi a k w b0 b1 w1 w2 b2 b3 b4 b5
  obtain ⟨x, rfl⟩ := Int.eq_ofNat_of_zero_le (show 0 ≤ a by omega)
  obtain ⟨n, rfl⟩ := Int.eq_ofNat_of_zero_le (show 0 ≤ k by omega)
  have zx := dec_size x (by omega)
  have zn := dec_size n (by omega)
  have zt : (dec x ++ ⟨#[47]⟩ ++ dec n).size ≤ 2147483647 := by
    rw [ByteArray.size_append, ByteArray.size_append]; show (dec x).size + 1 + (dec n).size ≤ _; omega
  have zs : ((⟨#[42, 47]⟩ : ByteArray) ++ dec n).size ≤ 2147483647 := by
    rw [ByteArray.size_append]; show 2 + (dec n).size ≤ _; omega
  have hI1 := hid (fun w ht => itoa_any x (by omega) w ht)
  have hI2 := hid (fun w ht => itoa_any n (by omega) w ht)
  have hC1 := hid (itemIn_of (dec x ++ ⟨#[47]⟩ ++ dec n) lo hi ((gb x hi n : Nat) : Int) (fun w => range_num _ (dec n) (dec x) lo hi n x w zt (by omega) (dec_atoi n (by omega)) (by omega) (by omega) (by omega) (cut_num x n) (dec_free 45 (by decide) x) (dec_not 42 (by decide) x) (dec_not 63 (by decide) x) (by omega) (dec_atoi x (by omega)) (by omega) (by omega)))
  have hQ := hid (fun w => bits_nat lo hi n w (by omega) (by omega) (by omega) (by omega))
  have hP := hid (fun w => bits_nat x hi n w (by omega) (by omega) (by omega) (by omega))
  have hor := gb_or_star lo hi n (by omega)
  by_cases hk : n = 1
  · have hC2 := hid (itemIn_of (⟨#[42, 47]⟩ ++ dec n) lo hi ((gb lo hi n ||| 9223372036854775808 : Nat) : Int) (fun w => range_star_one _ (dec n) lo hi n w zs (by omega) (dec_atoi n (by omega)) hk (by omega) (by omega) (cut_star n) (by omega)))
    exact from_one lo hi x n (dec x) (dec n) w b0 b1 b2 b3 b4 b5 (by rw [hk]; rfl) zx zn ht hI1 hI2 hC1 hC2 hQ hP hor
  · have hC2 := hid (itemIn_of (⟨#[42, 47]⟩ ++ dec n) lo hi ((gb lo hi n : Nat) : Int) (fun w => range_star_more _ (dec n) lo hi n w zs (by omega) (dec_atoi n (by omega)) (by omega) (by omega) (by omega) (cut_star n) (by omega)))
    exact from_more lo hi x n (dec x) (dec n) w b0 b1 b2 b3 b4 b5 (by rw [beq_eq_false_iff_ne]; omega) zx zn ht hI1 hI2 hC1 hC2 hQ hP hor
end Go.Proofs.YtcaabeocflfboaaDoor
