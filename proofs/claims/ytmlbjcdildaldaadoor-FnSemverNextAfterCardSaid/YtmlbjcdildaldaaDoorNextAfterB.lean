/- The law FnSemverNextAfter: the comparisons. -/
import Derived.Test.YtmlbjcdildaldaaDoorNextAfter
set_option linter.unusedVariables false
set_option linter.unusedSimpArgs false
namespace Go.Proofs.YtmlbjcdildaldaaDoor
open Go.RowKit

set_option maxRecDepth 100000 in
theorem next_above (a b c : Int) (p m : ByteArray) (a' b' c' : Int) (p' m' : ByteArray) (w : World) (hp : p.size ≤ maxLen) (hm : m.size ≤ maxLen) (hp' : p'.size ≤ maxLen) (hm' : m'.size ≤ maxLen) (hv : Vars w) (f1 : fitB p m = true) (f2 : fitB p' m' = true) (a2 b2 c2 : Int) (p2 : ByteArray) (ha : ∀ W, Calls Tryd.prog 21 #[.agg (scells a b c p m)] W fun e w' => e = .returned (.tuple #[.agg (scells a2 b2 c2 p2 ByteArray.empty), .bool true]) ∧ Below W.heap.size W w') (f3 : ok2 p m p' m' = true) (f4 : ¬ 1000 < p.size) (n1 n2 n3 : Int) (hc1 : ∀ (g h : Nat) (W : World), V6 W g a b c p m → V6 W h a2 b2 c2 p2 ByteArray.empty → Vars W → Calls Tryd.prog 60 #[.pointer (some ⟨g, 0, none⟩), .pointer (some ⟨h, 0, none⟩)] W fun e w' => e = .returned (.int .i64 n1) ∧ Below W.heap.size W w') (hc2 : ∀ (g h : Nat) (W : World), V6 W g a' b' c' p' m' → V6 W h a b c p m → Vars W → Calls Tryd.prog 60 #[.pointer (some ⟨g, 0, none⟩), .pointer (some ⟨h, 0, none⟩)] W fun e w' => e = .returned (.int .i64 n2) ∧ Below W.heap.size W w') (hc3 : ∀ (g h : Nat) (W : World), V6 W g a' b' c' p' m' → V6 W h a2 b2 c2 p2 ByteArray.empty → Vars W → Calls Tryd.prog 60 #[.pointer (some ⟨g, 0, none⟩), .pointer (some ⟨h, 0, none⟩)] W fun e w' => e = .returned (.int .i64 n3) ∧ Below W.heap.size W w') (h1 : n1 < 0) (h2 : 0 < n2) (h3 : 0 ≤ n3) :
    Calls Tryd.prog 5 #[.agg (scells a b c p m), .agg (scells a' b' c' p' m')] w fun e w' => e = .returned (.bool true) ∧ Below w.heap.size w w' := by
  obtain ⟨s1, s2⟩ := fitB_size f1
  obtain ⟨s1', s2'⟩ := fitB_size f2
  have HA := hid ha
  clear ha
  have HC1 := hid hc1
  have HC2 := hid hc2
  have HC3 := hid hc3
  clear hc1 hc2 hc3
  have B0 := hid (Below.refl ((w.alloc (.cells (scells a b c p m) 27)).alloc (.cells (scells a' b' c' p' m') 27)).heap.size ((w.alloc (.cells (scells a b c p m) 27)).alloc (.cells (scells a' b' c' p' m') 27)))
  have BW : Below w.heap.size w ((w.alloc (.cells (scells a b c p m) 27)).alloc (.cells (scells a' b' c' p' m') 27)) := by go_grown
  have HW := hid BW
  clear BW
  go_enter Tryd.func5, Tryd.ntmps5
  go_wp2_with fail
  go_at_call 17
  refine (fitB_any a b c p m _ hp hm).mono ?_
  rintro e w1 ⟨rfl, hb⟩
  have B1 := hid (bt B0.out hb)
  clear hb
  obtain ⟨x1_0, x1_1, x1_2, x1_3, x1_4, x1_5, x1_6, x1_7, x1_8, x1_9⟩ := keep10 (t := 27) B1.out
  go_wp2_with fail
  go_at_call 17
  refine (fitB_any a' b' c' p' m' _ hp' hm').mono ?_
  rintro e w2 ⟨rfl, hb⟩
  have B2 := hid (bt B1.out hb)
  clear hb
  obtain ⟨x2_0, x2_1, x2_2, x2_3, x2_4, x2_5, x2_6, x2_7, x2_8, x2_9⟩ := keep10 (t := 27) B2.out
  go_wp2_with fail
  go_at_call 21
  refine (HA.out _).mono ?_
  rintro e w3 ⟨rfl, hb⟩
  have B3 := hid (bt B2.out hb)
  clear hb
  obtain ⟨x3_0, x3_1, x3_2, x3_3, x3_4, x3_5, x3_6, x3_7, x3_8, x3_9⟩ := keep10 (t := 27) B3.out
  obtain ⟨z0, z1, z2, z3, z4, z5, z6, z7, z8, z9⟩ := keep10 (t := 27) (B3.out.alloc B3.out.size (.cells #[.int .u64 a2, .int .u64 b2, .int .u64 c2, .string p2, .string ByteArray.empty] 27))
  go_wp2_with fail
  go_at_call 19
  refine (svGood2 a b c p m a' b' c' p' m' s1 s2 s1' s2' _ _ _ (by rw [World.size_alloc])).mono ?_
  rintro e w4 ⟨rfl, hb⟩
  have B4 := hid (bt ((B3.out.alloc B3.out.size _).alloc (Nat.le_trans B3.out.size (by simp)) _) hb)
  have N4 := hid (((Blk.new w3 27 (scells a2 b2 c2 p2 ByteArray.empty)).alloc _).below hb)
  clear hb
  obtain ⟨x4_0, x4_1, x4_2, x4_3, x4_4, x4_5, x4_6, x4_7, x4_8, x4_9⟩ := keep10 (t := 27) B4.out
  have q0 : w4.cell? ⟨w3.heap.size, 0, none⟩ = some (.int .u64 a2) := N4.out.cell 0
  have q1 : w4.cell? ⟨w3.heap.size, 1, none⟩ = some (.int .u64 b2) := N4.out.cell 1
  have q2 : w4.cell? ⟨w3.heap.size, 2, none⟩ = some (.int .u64 c2) := N4.out.cell 2
  have q3 : w4.cell? ⟨w3.heap.size, 3, none⟩ = some (.string p2) := N4.out.cell 3
  have q4 : w4.cell? ⟨w3.heap.size, 4, none⟩ = some (.string ByteArray.empty) := N4.out.cell 4
  have HS := hid (⟨x4_0, x4_1, x4_2, x4_3, x4_4, x4_5, x4_6, x4_7, x4_8, x4_9, q0, q1, q2, q3, q4⟩ : w4.cell? ⟨w.heap.size, 0, none⟩ = some (.int .u64 a) ∧ w4.cell? ⟨w.heap.size, 1, none⟩ = some (.int .u64 b) ∧ w4.cell? ⟨w.heap.size, 2, none⟩ = some (.int .u64 c) ∧ w4.cell? ⟨w.heap.size, 3, none⟩ = some (.string p) ∧ w4.cell? ⟨w.heap.size, 4, none⟩ = some (.string m) ∧ w4.cell? ⟨w.heap.size + 1, 0, none⟩ = some (.int .u64 a') ∧ w4.cell? ⟨w.heap.size + 1, 1, none⟩ = some (.int .u64 b') ∧ w4.cell? ⟨w.heap.size + 1, 2, none⟩ = some (.int .u64 c') ∧ w4.cell? ⟨w.heap.size + 1, 3, none⟩ = some (.string p') ∧ w4.cell? ⟨w.heap.size + 1, 4, none⟩ = some (.string m') ∧ w4.cell? ⟨w3.heap.size, 0, none⟩ = some (.int .u64 a2) ∧ w4.cell? ⟨w3.heap.size, 1, none⟩ = some (.int .u64 b2) ∧ w4.cell? ⟨w3.heap.size, 2, none⟩ = some (.int .u64 c2) ∧ w4.cell? ⟨w3.heap.size, 3, none⟩ = some (.string p2) ∧ w4.cell? ⟨w3.heap.size, 4, none⟩ = some (.string ByteArray.empty))
  go_wp2_with fail
  go_region_held3 (fun w' => w'.cell? ⟨w.heap.size, 0, none⟩ = some (.int .u64 a) ∧ w'.cell? ⟨w.heap.size, 1, none⟩ = some (.int .u64 b) ∧ w'.cell? ⟨w.heap.size, 2, none⟩ = some (.int .u64 c) ∧ w'.cell? ⟨w.heap.size, 3, none⟩ = some (.string p) ∧ w'.cell? ⟨w.heap.size, 4, none⟩ = some (.string m) ∧ w'.cell? ⟨w.heap.size + 1, 0, none⟩ = some (.int .u64 a') ∧ w'.cell? ⟨w.heap.size + 1, 1, none⟩ = some (.int .u64 b') ∧ w'.cell? ⟨w.heap.size + 1, 2, none⟩ = some (.int .u64 c') ∧ w'.cell? ⟨w.heap.size + 1, 3, none⟩ = some (.string p') ∧ w'.cell? ⟨w.heap.size + 1, 4, none⟩ = some (.string m') ∧ w'.cell? ⟨w3.heap.size, 0, none⟩ = some (.int .u64 a2) ∧ w'.cell? ⟨w3.heap.size, 1, none⟩ = some (.int .u64 b2) ∧ w'.cell? ⟨w3.heap.size, 2, none⟩ = some (.int .u64 c2) ∧ w'.cell? ⟨w3.heap.size, 3, none⟩ = some (.string p2) ∧ w'.cell? ⟨w3.heap.size, 4, none⟩ = some (.string ByteArray.empty)) (first | (refine keep15 HS.out ?_; exact B7.out; done) | (refine keep15 HS.out ?_; exact B7.out.drew; done) | (refine keep15 HS.out ?_; exact B6.out; done) | (refine keep15 HS.out ?_; exact B6.out.drew; done) | (refine keep15 HS.out ?_; exact B5.out; done) | (refine keep15 HS.out ?_; exact B5.out.drew; done) | (refine keep15 HS.out ?_; exact (Below.refl _ _); done) | (refine keep15 HS.out ?_; exact (Below.refl _ _).drew; done))
    (first
      | (go_at_call_of 22 (Value.agg #[.int .u64 a, .int .u64 b, .int .u64 c, .string p, .string m]); refine (vLess_any n1 a b c p m a2 b2 c2 p2 ByteArray.empty _ ?_ HC1.out).mono ?_; (exact hv.below (bt HW.out (bt B4.out (Below.refl w4.heap.size w4).drew))); rintro e w5 ⟨rfl, hb5⟩; have B5 := hid (bt (Below.refl w4.heap.size w4).drew hb5))
      | (go_at_call_of 22 (Value.agg #[.int .u64 a, .int .u64 b, .int .u64 c, .string p, .string m]); refine (vLess_any n1 a b c p m a2 b2 c2 p2 ByteArray.empty _ ?_ HC1.out).mono ?_; (exact hv.below (bt HW.out (bt B4.out (Below.refl w4.heap.size w4)))); rintro e w5 ⟨rfl, hb5⟩; have B5 := hid (bt (Below.refl w4.heap.size w4) hb5))
      | (go_at_call_of 23 (Value.agg #[.int .u64 a', .int .u64 b', .int .u64 c', .string p', .string m']); refine (vGreater_any n2 a' b' c' p' m' a b c p m _ ?_ HC2.out).mono ?_; (exact hv.below (bt HW.out (bt B4.out B5.out))); rintro e w6 ⟨rfl, hb6⟩; have B6 := hid (bt B5.out hb6))
      | (go_at_call_of 23 (Value.agg #[.int .u64 a', .int .u64 b', .int .u64 c', .string p', .string m']); refine (vGreater_any n2 a' b' c' p' m' a b c p m _ ?_ HC2.out).mono ?_; (exact hv.below (bt HW.out (bt B4.out B5.out.drew))); rintro e w6 ⟨rfl, hb6⟩; have B6 := hid (bt B5.out.drew hb6))
      | (go_at_call_of 24 (Value.agg #[.int .u64 a', .int .u64 b', .int .u64 c', .string p', .string m']); refine (vGreaterEqual_any n3 a' b' c' p' m' a2 b2 c2 p2 ByteArray.empty _ ?_ HC3.out).mono ?_; (exact hv.below (bt HW.out (bt B4.out B6.out))); rintro e w7 ⟨rfl, hb7⟩; have B7 := hid (bt B6.out hb7))
      | (go_at_call_of 24 (Value.agg #[.int .u64 a', .int .u64 b', .int .u64 c', .string p', .string m']); refine (vGreaterEqual_any n3 a' b' c' p' m' a2 b2 c2 p2 ByteArray.empty _ ?_ HC3.out).mono ?_; (exact hv.below (bt HW.out (bt B4.out B6.out.drew))); rintro e w7 ⟨rfl, hb7⟩; have B7 := hid (bt B6.out.drew hb7)))
  all_goals (go_wp2_with fail; go_ret; exact ⟨ret_b (by simp [h2, h3] <;> omega), bt HW.out (bt B4.out B7.out)⟩)

set_option maxRecDepth 100000 in
theorem next_below (a b c : Int) (p m : ByteArray) (a' b' c' : Int) (p' m' : ByteArray) (w : World) (hp : p.size ≤ maxLen) (hm : m.size ≤ maxLen) (hp' : p'.size ≤ maxLen) (hm' : m'.size ≤ maxLen) (hv : Vars w) (f1 : fitB p m = true) (f2 : fitB p' m' = true) (a2 b2 c2 : Int) (p2 : ByteArray) (ha : ∀ W, Calls Tryd.prog 21 #[.agg (scells a b c p m)] W fun e w' => e = .returned (.tuple #[.agg (scells a2 b2 c2 p2 ByteArray.empty), .bool true]) ∧ Below W.heap.size W w') (f3 : ok2 p m p' m' = true) (f4 : ¬ 1000 < p.size) (n1 n2 n3 : Int) (hc1 : ∀ (g h : Nat) (W : World), V6 W g a b c p m → V6 W h a2 b2 c2 p2 ByteArray.empty → Vars W → Calls Tryd.prog 60 #[.pointer (some ⟨g, 0, none⟩), .pointer (some ⟨h, 0, none⟩)] W fun e w' => e = .returned (.int .i64 n1) ∧ Below W.heap.size W w') (hc2 : ∀ (g h : Nat) (W : World), V6 W g a' b' c' p' m' → V6 W h a b c p m → Vars W → Calls Tryd.prog 60 #[.pointer (some ⟨g, 0, none⟩), .pointer (some ⟨h, 0, none⟩)] W fun e w' => e = .returned (.int .i64 n2) ∧ Below W.heap.size W w') (hc3 : ∀ (g h : Nat) (W : World), V6 W g a' b' c' p' m' → V6 W h a2 b2 c2 p2 ByteArray.empty → Vars W → Calls Tryd.prog 60 #[.pointer (some ⟨g, 0, none⟩), .pointer (some ⟨h, 0, none⟩)] W fun e w' => e = .returned (.int .i64 n3) ∧ Below W.heap.size W w') (h1 : n1 < 0) (h2 : ¬ 0 < n2) (h3 : ¬ 0 ≤ n3) :
    Calls Tryd.prog 5 #[.agg (scells a b c p m), .agg (scells a' b' c' p' m')] w fun e w' => e = .returned (.bool true) ∧ Below w.heap.size w w' := by
  obtain ⟨s1, s2⟩ := fitB_size f1
  obtain ⟨s1', s2'⟩ := fitB_size f2
  have HA := hid ha
  clear ha
  have HC1 := hid hc1
  have HC2 := hid hc2
  have HC3 := hid hc3
  clear hc1 hc2 hc3
  have B0 := hid (Below.refl ((w.alloc (.cells (scells a b c p m) 27)).alloc (.cells (scells a' b' c' p' m') 27)).heap.size ((w.alloc (.cells (scells a b c p m) 27)).alloc (.cells (scells a' b' c' p' m') 27)))
  have BW : Below w.heap.size w ((w.alloc (.cells (scells a b c p m) 27)).alloc (.cells (scells a' b' c' p' m') 27)) := by go_grown
  have HW := hid BW
  clear BW
  go_enter Tryd.func5, Tryd.ntmps5
  go_wp2_with fail
  go_at_call 17
  refine (fitB_any a b c p m _ hp hm).mono ?_
  rintro e w1 ⟨rfl, hb⟩
  have B1 := hid (bt B0.out hb)
  clear hb
  obtain ⟨x1_0, x1_1, x1_2, x1_3, x1_4, x1_5, x1_6, x1_7, x1_8, x1_9⟩ := keep10 (t := 27) B1.out
  go_wp2_with fail
  go_at_call 17
  refine (fitB_any a' b' c' p' m' _ hp' hm').mono ?_
  rintro e w2 ⟨rfl, hb⟩
  have B2 := hid (bt B1.out hb)
  clear hb
  obtain ⟨x2_0, x2_1, x2_2, x2_3, x2_4, x2_5, x2_6, x2_7, x2_8, x2_9⟩ := keep10 (t := 27) B2.out
  go_wp2_with fail
  go_at_call 21
  refine (HA.out _).mono ?_
  rintro e w3 ⟨rfl, hb⟩
  have B3 := hid (bt B2.out hb)
  clear hb
  obtain ⟨x3_0, x3_1, x3_2, x3_3, x3_4, x3_5, x3_6, x3_7, x3_8, x3_9⟩ := keep10 (t := 27) B3.out
  obtain ⟨z0, z1, z2, z3, z4, z5, z6, z7, z8, z9⟩ := keep10 (t := 27) (B3.out.alloc B3.out.size (.cells #[.int .u64 a2, .int .u64 b2, .int .u64 c2, .string p2, .string ByteArray.empty] 27))
  go_wp2_with fail
  go_at_call 19
  refine (svGood2 a b c p m a' b' c' p' m' s1 s2 s1' s2' _ _ _ (by rw [World.size_alloc])).mono ?_
  rintro e w4 ⟨rfl, hb⟩
  have B4 := hid (bt ((B3.out.alloc B3.out.size _).alloc (Nat.le_trans B3.out.size (by simp)) _) hb)
  have N4 := hid (((Blk.new w3 27 (scells a2 b2 c2 p2 ByteArray.empty)).alloc _).below hb)
  clear hb
  obtain ⟨x4_0, x4_1, x4_2, x4_3, x4_4, x4_5, x4_6, x4_7, x4_8, x4_9⟩ := keep10 (t := 27) B4.out
  have q0 : w4.cell? ⟨w3.heap.size, 0, none⟩ = some (.int .u64 a2) := N4.out.cell 0
  have q1 : w4.cell? ⟨w3.heap.size, 1, none⟩ = some (.int .u64 b2) := N4.out.cell 1
  have q2 : w4.cell? ⟨w3.heap.size, 2, none⟩ = some (.int .u64 c2) := N4.out.cell 2
  have q3 : w4.cell? ⟨w3.heap.size, 3, none⟩ = some (.string p2) := N4.out.cell 3
  have q4 : w4.cell? ⟨w3.heap.size, 4, none⟩ = some (.string ByteArray.empty) := N4.out.cell 4
  have HS := hid (⟨x4_0, x4_1, x4_2, x4_3, x4_4, x4_5, x4_6, x4_7, x4_8, x4_9, q0, q1, q2, q3, q4⟩ : w4.cell? ⟨w.heap.size, 0, none⟩ = some (.int .u64 a) ∧ w4.cell? ⟨w.heap.size, 1, none⟩ = some (.int .u64 b) ∧ w4.cell? ⟨w.heap.size, 2, none⟩ = some (.int .u64 c) ∧ w4.cell? ⟨w.heap.size, 3, none⟩ = some (.string p) ∧ w4.cell? ⟨w.heap.size, 4, none⟩ = some (.string m) ∧ w4.cell? ⟨w.heap.size + 1, 0, none⟩ = some (.int .u64 a') ∧ w4.cell? ⟨w.heap.size + 1, 1, none⟩ = some (.int .u64 b') ∧ w4.cell? ⟨w.heap.size + 1, 2, none⟩ = some (.int .u64 c') ∧ w4.cell? ⟨w.heap.size + 1, 3, none⟩ = some (.string p') ∧ w4.cell? ⟨w.heap.size + 1, 4, none⟩ = some (.string m') ∧ w4.cell? ⟨w3.heap.size, 0, none⟩ = some (.int .u64 a2) ∧ w4.cell? ⟨w3.heap.size, 1, none⟩ = some (.int .u64 b2) ∧ w4.cell? ⟨w3.heap.size, 2, none⟩ = some (.int .u64 c2) ∧ w4.cell? ⟨w3.heap.size, 3, none⟩ = some (.string p2) ∧ w4.cell? ⟨w3.heap.size, 4, none⟩ = some (.string ByteArray.empty))
  go_wp2_with fail
  go_region_held3 (fun w' => w'.cell? ⟨w.heap.size, 0, none⟩ = some (.int .u64 a) ∧ w'.cell? ⟨w.heap.size, 1, none⟩ = some (.int .u64 b) ∧ w'.cell? ⟨w.heap.size, 2, none⟩ = some (.int .u64 c) ∧ w'.cell? ⟨w.heap.size, 3, none⟩ = some (.string p) ∧ w'.cell? ⟨w.heap.size, 4, none⟩ = some (.string m) ∧ w'.cell? ⟨w.heap.size + 1, 0, none⟩ = some (.int .u64 a') ∧ w'.cell? ⟨w.heap.size + 1, 1, none⟩ = some (.int .u64 b') ∧ w'.cell? ⟨w.heap.size + 1, 2, none⟩ = some (.int .u64 c') ∧ w'.cell? ⟨w.heap.size + 1, 3, none⟩ = some (.string p') ∧ w'.cell? ⟨w.heap.size + 1, 4, none⟩ = some (.string m') ∧ w'.cell? ⟨w3.heap.size, 0, none⟩ = some (.int .u64 a2) ∧ w'.cell? ⟨w3.heap.size, 1, none⟩ = some (.int .u64 b2) ∧ w'.cell? ⟨w3.heap.size, 2, none⟩ = some (.int .u64 c2) ∧ w'.cell? ⟨w3.heap.size, 3, none⟩ = some (.string p2) ∧ w'.cell? ⟨w3.heap.size, 4, none⟩ = some (.string ByteArray.empty)) (first | (refine keep15 HS.out ?_; exact B7.out; done) | (refine keep15 HS.out ?_; exact B7.out.drew; done) | (refine keep15 HS.out ?_; exact B6.out; done) | (refine keep15 HS.out ?_; exact B6.out.drew; done) | (refine keep15 HS.out ?_; exact B5.out; done) | (refine keep15 HS.out ?_; exact B5.out.drew; done) | (refine keep15 HS.out ?_; exact (Below.refl _ _); done) | (refine keep15 HS.out ?_; exact (Below.refl _ _).drew; done))
    (first
      | (go_at_call_of 22 (Value.agg #[.int .u64 a, .int .u64 b, .int .u64 c, .string p, .string m]); refine (vLess_any n1 a b c p m a2 b2 c2 p2 ByteArray.empty _ ?_ HC1.out).mono ?_; (exact hv.below (bt HW.out (bt B4.out (Below.refl w4.heap.size w4).drew))); rintro e w5 ⟨rfl, hb5⟩; have B5 := hid (bt (Below.refl w4.heap.size w4).drew hb5))
      | (go_at_call_of 22 (Value.agg #[.int .u64 a, .int .u64 b, .int .u64 c, .string p, .string m]); refine (vLess_any n1 a b c p m a2 b2 c2 p2 ByteArray.empty _ ?_ HC1.out).mono ?_; (exact hv.below (bt HW.out (bt B4.out (Below.refl w4.heap.size w4)))); rintro e w5 ⟨rfl, hb5⟩; have B5 := hid (bt (Below.refl w4.heap.size w4) hb5))
      | (go_at_call_of 23 (Value.agg #[.int .u64 a', .int .u64 b', .int .u64 c', .string p', .string m']); refine (vGreater_any n2 a' b' c' p' m' a b c p m _ ?_ HC2.out).mono ?_; (exact hv.below (bt HW.out (bt B4.out B5.out))); rintro e w6 ⟨rfl, hb6⟩; have B6 := hid (bt B5.out hb6))
      | (go_at_call_of 23 (Value.agg #[.int .u64 a', .int .u64 b', .int .u64 c', .string p', .string m']); refine (vGreater_any n2 a' b' c' p' m' a b c p m _ ?_ HC2.out).mono ?_; (exact hv.below (bt HW.out (bt B4.out B5.out.drew))); rintro e w6 ⟨rfl, hb6⟩; have B6 := hid (bt B5.out.drew hb6))
      | (go_at_call_of 24 (Value.agg #[.int .u64 a', .int .u64 b', .int .u64 c', .string p', .string m']); refine (vGreaterEqual_any n3 a' b' c' p' m' a2 b2 c2 p2 ByteArray.empty _ ?_ HC3.out).mono ?_; (exact hv.below (bt HW.out (bt B4.out B6.out))); rintro e w7 ⟨rfl, hb7⟩; have B7 := hid (bt B6.out hb7))
      | (go_at_call_of 24 (Value.agg #[.int .u64 a', .int .u64 b', .int .u64 c', .string p', .string m']); refine (vGreaterEqual_any n3 a' b' c' p' m' a2 b2 c2 p2 ByteArray.empty _ ?_ HC3.out).mono ?_; (exact hv.below (bt HW.out (bt B4.out B6.out.drew))); rintro e w7 ⟨rfl, hb7⟩; have B7 := hid (bt B6.out.drew hb7)))
  all_goals (go_wp2_with fail; go_ret; exact ⟨ret_b (by simp [h2, h3] <;> omega), bt HW.out (bt B4.out B7.out)⟩)

theorem ok2_parts {p m p' m' : ByteArray} (h : ok2 p m p' m' = true) : (p.size ≤ 65536 ∧ (p.toList ≠ [] → ∀ x ∈ cut 46 p.toList, Okid x)) ∧ (p'.size ≤ 65536 ∧ (p'.toList ≠ [] → ∀ x ∈ cut 46 p'.toList, Okid x)) := by
  have one : ∀ (q n : ByteArray), verOk ⟨0, 0, 0, q, n⟩ = true → q.size ≤ 65536 ∧ (q.toList ≠ [] → ∀ x ∈ cut 46 q.toList, Okid x) := fun q n hq => by
    simp only [verOk, Bool.and_eq_true, goodB, preOk, Bool.or_eq_true] at hq
    obtain ⟨h1, _, h2, _⟩ := hq
    refine ⟨by simpa [short] using h1, fun hne x hx => ?_⟩
    rcases h2 with h2 | ⟨h2, h3⟩
    · exact absurd (by simpa using h2) hne
    · exact okid_of x (List.all_eq_true.1 h2 x hx) (List.all_eq_true.1 h3 x hx)
  simp only [ok2, List.all_cons, List.all_nil, Bool.and_true, Bool.and_eq_true] at h
  exact ⟨one p m h.1, one p' m' h.2⟩

theorem next_all (a b c : Int) (p m : ByteArray) (a' b' c' : Int) (p' m' : ByteArray) (w : World) (hp : p.size ≤ maxLen) (hm : m.size ≤ maxLen) (hp' : p'.size ≤ maxLen) (hm' : m'.size ≤ maxLen) (hv : Vars w) (f1 : fitB p m = true) (f2 : fitB p' m' = true) (a2 b2 c2 : Int) (p2 : ByteArray) (ha : ∀ W, Calls Tryd.prog 21 #[.agg (scells a b c p m)] W fun e w' => e = .returned (.tuple #[.agg (scells a2 b2 c2 p2 ByteArray.empty), .bool true]) ∧ Below W.heap.size W w')
    (hlaw : (p.toList ≠ [] → ∀ x ∈ cut 46 p.toList, Okid x) → (p'.toList ≠ [] → ∀ x ∈ cut 46 p'.toList, Okid x) → cmpV (num3 a b c a2 b2 c2) p.toList p2.toList < 0 ∧ (0 < cmpV (num3 a' b' c' a b c) p'.toList p.toList ↔ 0 ≤ cmpV (num3 a' b' c' a2 b2 c2) p'.toList p2.toList))
    (h2 : p.size ≤ 1000 → p2.size ≤ 65536) :
    Calls Tryd.prog 5 #[.agg (scells a b c p m), .agg (scells a' b' c' p' m')] w fun e w' => e = .returned (.bool true) ∧ Below w.heap.size w w' := by
  cases f3 : ok2 p m p' m'
  · exact next_bad a b c p m a' b' c' p' m' w hp hm hp' hm' hv f1 f2 a2 b2 c2 p2 ha f3
  · by_cases f4 : 1000 < p.size
    · exact next_long a b c p m a' b' c' p' m' w hp hm hp' hm' hv f1 f2 a2 b2 c2 p2 ha f3 f4
    · obtain ⟨⟨z1, o1⟩, ⟨z2, o2⟩⟩ := ok2_parts f3
      have z3 := h2 (by omega)
      obtain ⟨l1, l2⟩ := hlaw o1 o2
      have k1 := fun g h W hx hy hW => compare_any a b c p m a2 b2 c2 p2 ByteArray.empty z1 z3 g h W hx hy hW
      have k2 := fun g h W hx hy hW => compare_any a' b' c' p' m' a b c p m z2 z1 g h W hx hy hW
      have k3 := fun g h W hx hy hW => compare_any a' b' c' p' m' a2 b2 c2 p2 ByteArray.empty z2 z3 g h W hx hy hW
      by_cases h : 0 < cmpV (num3 a' b' c' a b c) p'.toList p.toList
      · exact next_above a b c p m a' b' c' p' m' w hp hm hp' hm' hv f1 f2 a2 b2 c2 p2 ha f3 f4 _ _ _ k1 k2 k3 l1 h (l2.1 h)
      · exact next_below a b c p m a' b' c' p' m' w hp hm hp' hm' hv f1 f2 a2 b2 c2 p2 ha f3 f4 _ _ _ k1 k2 k3 l1 h (fun k => h (l2.2 k))

theorem fnSemverNextAfter_walk (a b c : Int) (p m : ByteArray) (a' b' c' : Int) (p' m' : ByteArray) (w : World) (wa : (Lit.int .u64 a).wf = true) (wb : (Lit.int .u64 b).wf = true) (wc : (Lit.int .u64 c).wf = true) (hp : p.size ≤ maxLen) (hm : m.size ≤ maxLen)
    (wa' : (Lit.int .u64 a').wf = true) (wb' : (Lit.int .u64 b').wf = true) (wc' : (Lit.int .u64 c').wf = true) (hp' : p'.size ≤ maxLen) (hm' : m'.size ≤ maxLen) (hv : Vars w) :
    Calls Tryd.prog 5 #[.agg (scells a b c p m), .agg (scells a' b' c' p' m')] w fun e w' => e = .returned (.bool true) ∧ Below w.heap.size w w' := by
  have ra := wf_u64 wa
  have rb := wf_u64 wb
  have rc := wf_u64 wc
  have ra' := wf_u64 wa'
  have rb' := wf_u64 wb'
  have rc' := wf_u64 wc'
  cases f1 : fitB p m
  · exact next_unfit1 a b c p m a' b' c' p' m' w hp hm hp' hm' hv f1
  cases f2 : fitB p' m'
  · exact next_unfit2 a b c p m a' b' c' p' m' w hp hm hp' hm' hv f1 f2
  have hfs := fitB_size f1
  cases he : p.toList.isEmpty
  · have hne : p.toList ≠ [] := by simpa using he
    refine next_all a b c p m a' b' c' p' m' w hp hm hp' hm' hv f1 f2 a b c (p ++ dotZero) (fun W => after_pre a b c p m W he hfs.1) (fun o1 o2 => ?_) (fun h => ?_)
    · rw [num3_self, app_list]
      have e : dotZero.toList = [46, 48] := by rw [ByteArray.toList_eq]
      rw [e]
      exact next_pre _ _ _ hne (o1 hne) o2
    · rw [ByteArray.size_append]
      show p.size + 2 ≤ 65536
      omega
  · have hnil : p.toList = [] := by simpa using he
    have hz : zeroP.toList = [48] := by rw [ByteArray.toList_eq]
    have law : ∀ a2 b2 c2 : Int, num3 a b c a2 b2 c2 < 0 → (num3 a' b' c' a b c ≤ 0 → num3 a' b' c' a2 b2 c2 < 0) → (0 < num3 a' b' c' a b c → 0 ≤ num3 a' b' c' a2 b2 c2) →
        (p.toList ≠ [] → ∀ x ∈ cut 46 p.toList, Okid x) → (p'.toList ≠ [] → ∀ x ∈ cut 46 p'.toList, Okid x) → cmpV (num3 a b c a2 b2 c2) p.toList zeroP.toList < 0 ∧ (0 < cmpV (num3 a' b' c' a b c) p'.toList p.toList ↔ 0 ≤ cmpV (num3 a' b' c' a2 b2 c2) p'.toList zeroP.toList) := fun a2 b2 c2 k1 k2 k3 _ o2 => by
      rw [hnil, hz]
      exact next_rel _ _ _ _ o2 k1 k2 k3
    by_cases hc : c < 18446744073709551615
    · refine next_all a b c p m a' b' c' p' m' w hp hm hp' hm' hv f1 f2 a b (c + 1) zeroP (fun W => after_rel a b c p m a b (c + 1) true W he (fun W => block3_patch a b c p ByteArray.empty W rc.1 hc)) (law _ _ _ ?_ ?_ ?_) (fun _ => by decide)
      all_goals (have q1 := num3_cases a b c a b (c + 1); have q2 := num3_cases a' b' c' a b c; have q3 := num3_cases a' b' c' a b (c + 1); omega)
    · have hc' : c = 18446744073709551615 := by omega
      by_cases hb : b < 18446744073709551615
      · refine next_all a b c p m a' b' c' p' m' w hp hm hp' hm' hv f1 f2 a (b + 1) 0 zeroP (fun W => after_rel a b c p m a (b + 1) 0 true W he (fun W => block3_minor a b c p ByteArray.empty W rb.1 hb hc')) (law _ _ _ ?_ ?_ ?_) (fun _ => by decide)
        all_goals (have q1 := num3_cases a b c a (b + 1) 0; have q2 := num3_cases a' b' c' a b c; have q3 := num3_cases a' b' c' a (b + 1) 0; omega)
      · have hb' : b = 18446744073709551615 := by omega
        by_cases ha : a < 18446744073709551615
        · refine next_all a b c p m a' b' c' p' m' w hp hm hp' hm' hv f1 f2 (a + 1) 0 0 zeroP (fun W => after_rel a b c p m (a + 1) 0 0 true W he (fun W => block3_major a b c p ByteArray.empty W ra.1 ha hb' hc')) (law _ _ _ ?_ ?_ ?_) (fun _ => by decide)
          all_goals (have q1 := num3_cases a b c (a + 1) 0 0; have q2 := num3_cases a' b' c' a b c; have q3 := num3_cases a' b' c' (a + 1) 0 0; omega)
        · exact next_none a b c p m a' b' c' p' m' w hp hm hp' hm' hv f1 f2 0 0 0 zeroP (fun W => after_rel a b c p m 0 0 0 false W he (fun W => block3_none a b c p ByteArray.empty W (by omega) hb' hc'))
end Go.Proofs.YtmlbjcdildaldaaDoor
