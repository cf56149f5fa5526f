/- The law FnSemverTermLetIn, walked. The law FnSemverTermLetIn: the plain law, and the ways joined. -/
import Derived.Test.YtmlbjcdildaldaaDoorWild
import Derived.Test.YtmlbjcdildaldaaDoorGoodT
set_option linter.unusedVariables false
set_option linter.unusedSimpArgs false
namespace Go.Proofs.YtmlbjcdildaldaaDoor
open Go.RowKit

set_option maxHeartbeats 800000 in
set_option maxRecDepth 100000 in
theorem letin_unfit1 (o k : Int) (a b c : Int) (p : ByteArray) (a' b' c' : Int) (p' m' : ByteArray) (w : World) (hp : p.size ≤ maxLen) (hp' : p'.size ≤ maxLen) (hm' : m'.size ≤ maxLen) (hv : Vars w) (f0 : decide (p.size ≤ 2147483647) = false) :
    Calls Tryd.prog 10 #[.agg #[.int .i64 o, .int .i64 k, .int .u64 a, .int .u64 b, .int .u64 c, .string p], .agg (scells a' b' c' p' m')] w fun e w' => e = .returned (.bool true) ∧ Below w.heap.size w w' := by
  have B := hid (show Below w.heap.size w ((w.alloc (.cells #[.int .i64 o, .int .i64 k, .int .u64 a, .int .u64 b, .int .u64 c, .string p] 36)).alloc (.cells #[.int .u64 a', .int .u64 b', .int .u64 c', .string p', .string m'] 27)) by go_grown)
  have Z := hid (show w.heap.size + 2 ≤ ((w.alloc (.cells #[.int .i64 o, .int .i64 k, .int .u64 a, .int .u64 b, .int .u64 c, .string p] 36)).alloc (.cells #[.int .u64 a', .int .u64 b', .int .u64 c', .string p', .string m'] 27)).heap.size by simp only [World.size_alloc]; omega)
  obtain ⟨qa, qb⟩ := two_new w (#[.int .i64 o, .int .i64 k, .int .u64 a, .int .u64 b, .int .u64 c, .string p]) (#[.int .u64 a', .int .u64 b', .int .u64 c', .string p', .string m']) 36 27
  have Qa := hid qa
  have Qb := hid qb
  clear qa qb
  have HV := hid hv
  clear hv
  go_enter Tryd.func10, Tryd.ntmps10
  go_wp2_with fail
  go_at_call 25
  refine (fits13_any _ _ a b c p _ hp).mono ?_
  rintro e w1 ⟨rfl, hb⟩
  replace Qa := hid ((Qa.out).below hb)
  replace Qb := hid ((Qb.out).below hb)
  replace Z := hid (Nat.le_trans (Nat.le_trans Z.out (by first | exact Nat.le_refl _ | omega | (simp only [World.size_alloc, World.size_drew]; omega))) hb.size)
  replace B := hid (bt B.out hb)
  clear hb
  have xa0 : w1.cell? ⟨w.heap.size, 0, none⟩ = some (.int .i64 o) := Qa.out.cell 0
  have xa1 : w1.cell? ⟨w.heap.size, 1, none⟩ = some (.int .i64 k) := Qa.out.cell 1
  have xa2 : w1.cell? ⟨w.heap.size, 2, none⟩ = some (.int .u64 a) := Qa.out.cell 2
  have xa3 : w1.cell? ⟨w.heap.size, 3, none⟩ = some (.int .u64 b) := Qa.out.cell 3
  have xa4 : w1.cell? ⟨w.heap.size, 4, none⟩ = some (.int .u64 c) := Qa.out.cell 4
  have xa5 : w1.cell? ⟨w.heap.size, 5, none⟩ = some (.string p) := Qa.out.cell 5
  have xb0 : w1.cell? ⟨w.heap.size + 1, 0, none⟩ = some (.int .u64 a') := Qb.out.cell 0
  have xb1 : w1.cell? ⟨w.heap.size + 1, 1, none⟩ = some (.int .u64 b') := Qb.out.cell 1
  have xb2 : w1.cell? ⟨w.heap.size + 1, 2, none⟩ = some (.int .u64 c') := Qb.out.cell 2
  have xb3 : w1.cell? ⟨w.heap.size + 1, 3, none⟩ = some (.string p') := Qb.out.cell 3
  have xb4 : w1.cell? ⟨w.heap.size + 1, 4, none⟩ = some (.string m') := Qb.out.cell 4
  go_wp2_with fail
  go_ret
  exact ⟨rfl, B.out⟩

set_option maxHeartbeats 800000 in
set_option maxRecDepth 100000 in
theorem letin_unfit2 (o k : Int) (a b c : Int) (p : ByteArray) (a' b' c' : Int) (p' m' : ByteArray) (w : World) (hp : p.size ≤ maxLen) (hp' : p'.size ≤ maxLen) (hm' : m'.size ≤ maxLen) (hv : Vars w) (f0 : decide (p.size ≤ 2147483647) = true) (f1 : fitB p' m' = false) :
    Calls Tryd.prog 10 #[.agg #[.int .i64 o, .int .i64 k, .int .u64 a, .int .u64 b, .int .u64 c, .string p], .agg (scells a' b' c' p' m')] w fun e w' => e = .returned (.bool true) ∧ Below w.heap.size w w' := by
  have B := hid (show Below w.heap.size w ((w.alloc (.cells #[.int .i64 o, .int .i64 k, .int .u64 a, .int .u64 b, .int .u64 c, .string p] 36)).alloc (.cells #[.int .u64 a', .int .u64 b', .int .u64 c', .string p', .string m'] 27)) by go_grown)
  have Z := hid (show w.heap.size + 2 ≤ ((w.alloc (.cells #[.int .i64 o, .int .i64 k, .int .u64 a, .int .u64 b, .int .u64 c, .string p] 36)).alloc (.cells #[.int .u64 a', .int .u64 b', .int .u64 c', .string p', .string m'] 27)).heap.size by simp only [World.size_alloc]; omega)
  obtain ⟨qa, qb⟩ := two_new w (#[.int .i64 o, .int .i64 k, .int .u64 a, .int .u64 b, .int .u64 c, .string p]) (#[.int .u64 a', .int .u64 b', .int .u64 c', .string p', .string m']) 36 27
  have Qa := hid qa
  have Qb := hid qb
  clear qa qb
  have HV := hid hv
  clear hv
  go_enter Tryd.func10, Tryd.ntmps10
  go_wp2_with fail
  go_at_call 25
  refine (fits13_any _ _ a b c p _ hp).mono ?_
  rintro e w1 ⟨rfl, hb⟩
  replace Qa := hid ((Qa.out).below hb)
  replace Qb := hid ((Qb.out).below hb)
  replace Z := hid (Nat.le_trans (Nat.le_trans Z.out (by first | exact Nat.le_refl _ | omega | (simp only [World.size_alloc, World.size_drew]; omega))) hb.size)
  replace B := hid (bt B.out hb)
  clear hb
  have xa0 : w1.cell? ⟨w.heap.size, 0, none⟩ = some (.int .i64 o) := Qa.out.cell 0
  have xa1 : w1.cell? ⟨w.heap.size, 1, none⟩ = some (.int .i64 k) := Qa.out.cell 1
  have xa2 : w1.cell? ⟨w.heap.size, 2, none⟩ = some (.int .u64 a) := Qa.out.cell 2
  have xa3 : w1.cell? ⟨w.heap.size, 3, none⟩ = some (.int .u64 b) := Qa.out.cell 3
  have xa4 : w1.cell? ⟨w.heap.size, 4, none⟩ = some (.int .u64 c) := Qa.out.cell 4
  have xa5 : w1.cell? ⟨w.heap.size, 5, none⟩ = some (.string p) := Qa.out.cell 5
  have xb0 : w1.cell? ⟨w.heap.size + 1, 0, none⟩ = some (.int .u64 a') := Qb.out.cell 0
  have xb1 : w1.cell? ⟨w.heap.size + 1, 1, none⟩ = some (.int .u64 b') := Qb.out.cell 1
  have xb2 : w1.cell? ⟨w.heap.size + 1, 2, none⟩ = some (.int .u64 c') := Qb.out.cell 2
  have xb3 : w1.cell? ⟨w.heap.size + 1, 3, none⟩ = some (.string p') := Qb.out.cell 3
  have xb4 : w1.cell? ⟨w.heap.size + 1, 4, none⟩ = some (.string m') := Qb.out.cell 4
  go_wp2_with fail
  go_at_call 17
  refine (fitB_any a' b' c' p' m' _ hp' hm').mono ?_
  rintro e w2 ⟨rfl, hb⟩
  replace Qa := hid ((Qa.out).below hb)
  replace Qb := hid ((Qb.out).below hb)
  replace Z := hid (Nat.le_trans (Nat.le_trans Z.out (by first | exact Nat.le_refl _ | omega | (simp only [World.size_alloc, World.size_drew]; omega))) hb.size)
  replace B := hid (bt B.out hb)
  clear hb
  have xa0 : w2.cell? ⟨w.heap.size, 0, none⟩ = some (.int .i64 o) := Qa.out.cell 0
  have xa1 : w2.cell? ⟨w.heap.size, 1, none⟩ = some (.int .i64 k) := Qa.out.cell 1
  have xa2 : w2.cell? ⟨w.heap.size, 2, none⟩ = some (.int .u64 a) := Qa.out.cell 2
  have xa3 : w2.cell? ⟨w.heap.size, 3, none⟩ = some (.int .u64 b) := Qa.out.cell 3
  have xa4 : w2.cell? ⟨w.heap.size, 4, none⟩ = some (.int .u64 c) := Qa.out.cell 4
  have xa5 : w2.cell? ⟨w.heap.size, 5, none⟩ = some (.string p) := Qa.out.cell 5
  have xb0 : w2.cell? ⟨w.heap.size + 1, 0, none⟩ = some (.int .u64 a') := Qb.out.cell 0
  have xb1 : w2.cell? ⟨w.heap.size + 1, 1, none⟩ = some (.int .u64 b') := Qb.out.cell 1
  have xb2 : w2.cell? ⟨w.heap.size + 1, 2, none⟩ = some (.int .u64 c') := Qb.out.cell 2
  have xb3 : w2.cell? ⟨w.heap.size + 1, 3, none⟩ = some (.string p') := Qb.out.cell 3
  have xb4 : w2.cell? ⟨w.heap.size + 1, 4, none⟩ = some (.string m') := Qb.out.cell 4
  go_wp2_with fail
  go_ret
  exact ⟨rfl, B.out⟩

set_option maxHeartbeats 800000 in
set_option maxRecDepth 100000 in
theorem letin_ungood (o k : Int) (a b c : Int) (p : ByteArray) (a' b' c' : Int) (p' m' : ByteArray) (w : World) (hp : p.size ≤ maxLen) (hp' : p'.size ≤ maxLen) (hm' : m'.size ≤ maxLen) (hv : Vars w) (f0 : decide (p.size ≤ 2147483647) = true) (f1 : fitB p' m' = true) (s0 : p.size ≤ 2147483647) (s1 : p'.size ≤ 2147483647 ∧ m'.size ≤ 2147483647) (f2 : goodT o k a b c p = false) :
    Calls Tryd.prog 10 #[.agg #[.int .i64 o, .int .i64 k, .int .u64 a, .int .u64 b, .int .u64 c, .string p], .agg (scells a' b' c' p' m')] w fun e w' => e = .returned (.bool true) ∧ Below w.heap.size w w' := by
  have B := hid (show Below w.heap.size w ((w.alloc (.cells #[.int .i64 o, .int .i64 k, .int .u64 a, .int .u64 b, .int .u64 c, .string p] 36)).alloc (.cells #[.int .u64 a', .int .u64 b', .int .u64 c', .string p', .string m'] 27)) by go_grown)
  have Z := hid (show w.heap.size + 2 ≤ ((w.alloc (.cells #[.int .i64 o, .int .i64 k, .int .u64 a, .int .u64 b, .int .u64 c, .string p] 36)).alloc (.cells #[.int .u64 a', .int .u64 b', .int .u64 c', .string p', .string m'] 27)).heap.size by simp only [World.size_alloc]; omega)
  obtain ⟨qa, qb⟩ := two_new w (#[.int .i64 o, .int .i64 k, .int .u64 a, .int .u64 b, .int .u64 c, .string p]) (#[.int .u64 a', .int .u64 b', .int .u64 c', .string p', .string m']) 36 27
  have Qa := hid qa
  have Qb := hid qb
  clear qa qb
  have HV := hid hv
  clear hv
  go_enter Tryd.func10, Tryd.ntmps10
  go_wp2_with fail
  go_at_call 25
  refine (fits13_any _ _ a b c p _ hp).mono ?_
  rintro e w1 ⟨rfl, hb⟩
  replace Qa := hid ((Qa.out).below hb)
  replace Qb := hid ((Qb.out).below hb)
  replace Z := hid (Nat.le_trans (Nat.le_trans Z.out (by first | exact Nat.le_refl _ | omega | (simp only [World.size_alloc, World.size_drew]; omega))) hb.size)
  replace B := hid (bt B.out hb)
  clear hb
  have xa0 : w1.cell? ⟨w.heap.size, 0, none⟩ = some (.int .i64 o) := Qa.out.cell 0
  have xa1 : w1.cell? ⟨w.heap.size, 1, none⟩ = some (.int .i64 k) := Qa.out.cell 1
  have xa2 : w1.cell? ⟨w.heap.size, 2, none⟩ = some (.int .u64 a) := Qa.out.cell 2
  have xa3 : w1.cell? ⟨w.heap.size, 3, none⟩ = some (.int .u64 b) := Qa.out.cell 3
  have xa4 : w1.cell? ⟨w.heap.size, 4, none⟩ = some (.int .u64 c) := Qa.out.cell 4
  have xa5 : w1.cell? ⟨w.heap.size, 5, none⟩ = some (.string p) := Qa.out.cell 5
  have xb0 : w1.cell? ⟨w.heap.size + 1, 0, none⟩ = some (.int .u64 a') := Qb.out.cell 0
  have xb1 : w1.cell? ⟨w.heap.size + 1, 1, none⟩ = some (.int .u64 b') := Qb.out.cell 1
  have xb2 : w1.cell? ⟨w.heap.size + 1, 2, none⟩ = some (.int .u64 c') := Qb.out.cell 2
  have xb3 : w1.cell? ⟨w.heap.size + 1, 3, none⟩ = some (.string p') := Qb.out.cell 3
  have xb4 : w1.cell? ⟨w.heap.size + 1, 4, none⟩ = some (.string m') := Qb.out.cell 4
  go_wp2_with fail
  go_at_call 17
  refine (fitB_any a' b' c' p' m' _ hp' hm').mono ?_
  rintro e w2 ⟨rfl, hb⟩
  replace Qa := hid ((Qa.out).below hb)
  replace Qb := hid ((Qb.out).below hb)
  replace Z := hid (Nat.le_trans (Nat.le_trans Z.out (by first | exact Nat.le_refl _ | omega | (simp only [World.size_alloc, World.size_drew]; omega))) hb.size)
  replace B := hid (bt B.out hb)
  clear hb
  have xa0 : w2.cell? ⟨w.heap.size, 0, none⟩ = some (.int .i64 o) := Qa.out.cell 0
  have xa1 : w2.cell? ⟨w.heap.size, 1, none⟩ = some (.int .i64 k) := Qa.out.cell 1
  have xa2 : w2.cell? ⟨w.heap.size, 2, none⟩ = some (.int .u64 a) := Qa.out.cell 2
  have xa3 : w2.cell? ⟨w.heap.size, 3, none⟩ = some (.int .u64 b) := Qa.out.cell 3
  have xa4 : w2.cell? ⟨w.heap.size, 4, none⟩ = some (.int .u64 c) := Qa.out.cell 4
  have xa5 : w2.cell? ⟨w.heap.size, 5, none⟩ = some (.string p) := Qa.out.cell 5
  have xb0 : w2.cell? ⟨w.heap.size + 1, 0, none⟩ = some (.int .u64 a') := Qb.out.cell 0
  have xb1 : w2.cell? ⟨w.heap.size + 1, 1, none⟩ = some (.int .u64 b') := Qb.out.cell 1
  have xb2 : w2.cell? ⟨w.heap.size + 1, 2, none⟩ = some (.int .u64 c') := Qb.out.cell 2
  have xb3 : w2.cell? ⟨w.heap.size + 1, 3, none⟩ = some (.string p') := Qb.out.cell 3
  have xb4 : w2.cell? ⟨w.heap.size + 1, 4, none⟩ = some (.string m') := Qb.out.cell 4
  go_wp2_with fail
  go_at_call 34
  refine (goodTerm_any _ _ a b c p _ s0).mono ?_
  rintro e w3 ⟨rfl, hb⟩
  replace Qa := hid ((Qa.out).below hb)
  replace Qb := hid ((Qb.out).below hb)
  replace Z := hid (Nat.le_trans (Nat.le_trans Z.out (by first | exact Nat.le_refl _ | omega | (simp only [World.size_alloc, World.size_drew]; omega))) hb.size)
  replace B := hid (bt B.out hb)
  clear hb
  have xa0 : w3.cell? ⟨w.heap.size, 0, none⟩ = some (.int .i64 o) := Qa.out.cell 0
  have xa1 : w3.cell? ⟨w.heap.size, 1, none⟩ = some (.int .i64 k) := Qa.out.cell 1
  have xa2 : w3.cell? ⟨w.heap.size, 2, none⟩ = some (.int .u64 a) := Qa.out.cell 2
  have xa3 : w3.cell? ⟨w.heap.size, 3, none⟩ = some (.int .u64 b) := Qa.out.cell 3
  have xa4 : w3.cell? ⟨w.heap.size, 4, none⟩ = some (.int .u64 c) := Qa.out.cell 4
  have xa5 : w3.cell? ⟨w.heap.size, 5, none⟩ = some (.string p) := Qa.out.cell 5
  have xb0 : w3.cell? ⟨w.heap.size + 1, 0, none⟩ = some (.int .u64 a') := Qb.out.cell 0
  have xb1 : w3.cell? ⟨w.heap.size + 1, 1, none⟩ = some (.int .u64 b') := Qb.out.cell 1
  have xb2 : w3.cell? ⟨w.heap.size + 1, 2, none⟩ = some (.int .u64 c') := Qb.out.cell 2
  have xb3 : w3.cell? ⟨w.heap.size + 1, 3, none⟩ = some (.string p') := Qb.out.cell 3
  have xb4 : w3.cell? ⟨w.heap.size + 1, 4, none⟩ = some (.string m') := Qb.out.cell 4
  go_wp2_with fail
  go_ret
  exact ⟨rfl, B.out⟩

set_option maxHeartbeats 800000 in
set_option maxRecDepth 100000 in
theorem letin_bad (o k : Int) (a b c : Int) (p : ByteArray) (a' b' c' : Int) (p' m' : ByteArray) (w : World) (hp : p.size ≤ maxLen) (hp' : p'.size ≤ maxLen) (hm' : m'.size ≤ maxLen) (hv : Vars w) (f0 : decide (p.size ≤ 2147483647) = true) (f1 : fitB p' m' = true) (s0 : p.size ≤ 2147483647) (s1 : p'.size ≤ 2147483647 ∧ m'.size ≤ 2147483647) (f2 : goodT o k a b c p = true) (f3 : verOk ⟨0, 0, 0, p', m'⟩ = false) :
    Calls Tryd.prog 10 #[.agg #[.int .i64 o, .int .i64 k, .int .u64 a, .int .u64 b, .int .u64 c, .string p], .agg (scells a' b' c' p' m')] w fun e w' => e = .returned (.bool true) ∧ Below w.heap.size w w' := by
  have B := hid (show Below w.heap.size w ((w.alloc (.cells #[.int .i64 o, .int .i64 k, .int .u64 a, .int .u64 b, .int .u64 c, .string p] 36)).alloc (.cells #[.int .u64 a', .int .u64 b', .int .u64 c', .string p', .string m'] 27)) by go_grown)
  have Z := hid (show w.heap.size + 2 ≤ ((w.alloc (.cells #[.int .i64 o, .int .i64 k, .int .u64 a, .int .u64 b, .int .u64 c, .string p] 36)).alloc (.cells #[.int .u64 a', .int .u64 b', .int .u64 c', .string p', .string m'] 27)).heap.size by simp only [World.size_alloc]; omega)
  obtain ⟨qa, qb⟩ := two_new w (#[.int .i64 o, .int .i64 k, .int .u64 a, .int .u64 b, .int .u64 c, .string p]) (#[.int .u64 a', .int .u64 b', .int .u64 c', .string p', .string m']) 36 27
  have Qa := hid qa
  have Qb := hid qb
  clear qa qb
  have HV := hid hv
  clear hv
  go_enter Tryd.func10, Tryd.ntmps10
  go_wp2_with fail
  go_at_call 25
  refine (fits13_any _ _ a b c p _ hp).mono ?_
  rintro e w1 ⟨rfl, hb⟩
  replace Qa := hid ((Qa.out).below hb)
  replace Qb := hid ((Qb.out).below hb)
  replace Z := hid (Nat.le_trans (Nat.le_trans Z.out (by first | exact Nat.le_refl _ | omega | (simp only [World.size_alloc, World.size_drew]; omega))) hb.size)
  replace B := hid (bt B.out hb)
  clear hb
  have xa0 : w1.cell? ⟨w.heap.size, 0, none⟩ = some (.int .i64 o) := Qa.out.cell 0
  have xa1 : w1.cell? ⟨w.heap.size, 1, none⟩ = some (.int .i64 k) := Qa.out.cell 1
  have xa2 : w1.cell? ⟨w.heap.size, 2, none⟩ = some (.int .u64 a) := Qa.out.cell 2
  have xa3 : w1.cell? ⟨w.heap.size, 3, none⟩ = some (.int .u64 b) := Qa.out.cell 3
  have xa4 : w1.cell? ⟨w.heap.size, 4, none⟩ = some (.int .u64 c) := Qa.out.cell 4
  have xa5 : w1.cell? ⟨w.heap.size, 5, none⟩ = some (.string p) := Qa.out.cell 5
  have xb0 : w1.cell? ⟨w.heap.size + 1, 0, none⟩ = some (.int .u64 a') := Qb.out.cell 0
  have xb1 : w1.cell? ⟨w.heap.size + 1, 1, none⟩ = some (.int .u64 b') := Qb.out.cell 1
  have xb2 : w1.cell? ⟨w.heap.size + 1, 2, none⟩ = some (.int .u64 c') := Qb.out.cell 2
  have xb3 : w1.cell? ⟨w.heap.size + 1, 3, none⟩ = some (.string p') := Qb.out.cell 3
  have xb4 : w1.cell? ⟨w.heap.size + 1, 4, none⟩ = some (.string m') := Qb.out.cell 4
  go_wp2_with fail
  go_at_call 17
  refine (fitB_any a' b' c' p' m' _ hp' hm').mono ?_
  rintro e w2 ⟨rfl, hb⟩
  replace Qa := hid ((Qa.out).below hb)
  replace Qb := hid ((Qb.out).below hb)
  replace Z := hid (Nat.le_trans (Nat.le_trans Z.out (by first | exact Nat.le_refl _ | omega | (simp only [World.size_alloc, World.size_drew]; omega))) hb.size)
  replace B := hid (bt B.out hb)
  clear hb
  have xa0 : w2.cell? ⟨w.heap.size, 0, none⟩ = some (.int .i64 o) := Qa.out.cell 0
  have xa1 : w2.cell? ⟨w.heap.size, 1, none⟩ = some (.int .i64 k) := Qa.out.cell 1
  have xa2 : w2.cell? ⟨w.heap.size, 2, none⟩ = some (.int .u64 a) := Qa.out.cell 2
  have xa3 : w2.cell? ⟨w.heap.size, 3, none⟩ = some (.int .u64 b) := Qa.out.cell 3
  have xa4 : w2.cell? ⟨w.heap.size, 4, none⟩ = some (.int .u64 c) := Qa.out.cell 4
  have xa5 : w2.cell? ⟨w.heap.size, 5, none⟩ = some (.string p) := Qa.out.cell 5
  have xb0 : w2.cell? ⟨w.heap.size + 1, 0, none⟩ = some (.int .u64 a') := Qb.out.cell 0
  have xb1 : w2.cell? ⟨w.heap.size + 1, 1, none⟩ = some (.int .u64 b') := Qb.out.cell 1
  have xb2 : w2.cell? ⟨w.heap.size + 1, 2, none⟩ = some (.int .u64 c') := Qb.out.cell 2
  have xb3 : w2.cell? ⟨w.heap.size + 1, 3, none⟩ = some (.string p') := Qb.out.cell 3
  have xb4 : w2.cell? ⟨w.heap.size + 1, 4, none⟩ = some (.string m') := Qb.out.cell 4
  go_wp2_with fail
  go_at_call 34
  refine (goodTerm_any _ _ a b c p _ s0).mono ?_
  rintro e w3 ⟨rfl, hb⟩
  replace Qa := hid ((Qa.out).below hb)
  replace Qb := hid ((Qb.out).below hb)
  replace Z := hid (Nat.le_trans (Nat.le_trans Z.out (by first | exact Nat.le_refl _ | omega | (simp only [World.size_alloc, World.size_drew]; omega))) hb.size)
  replace B := hid (bt B.out hb)
  clear hb
  have xa0 : w3.cell? ⟨w.heap.size, 0, none⟩ = some (.int .i64 o) := Qa.out.cell 0
  have xa1 : w3.cell? ⟨w.heap.size, 1, none⟩ = some (.int .i64 k) := Qa.out.cell 1
  have xa2 : w3.cell? ⟨w.heap.size, 2, none⟩ = some (.int .u64 a) := Qa.out.cell 2
  have xa3 : w3.cell? ⟨w.heap.size, 3, none⟩ = some (.int .u64 b) := Qa.out.cell 3
  have xa4 : w3.cell? ⟨w.heap.size, 4, none⟩ = some (.int .u64 c) := Qa.out.cell 4
  have xa5 : w3.cell? ⟨w.heap.size, 5, none⟩ = some (.string p) := Qa.out.cell 5
  have xb0 : w3.cell? ⟨w.heap.size + 1, 0, none⟩ = some (.int .u64 a') := Qb.out.cell 0
  have xb1 : w3.cell? ⟨w.heap.size + 1, 1, none⟩ = some (.int .u64 b') := Qb.out.cell 1
  have xb2 : w3.cell? ⟨w.heap.size + 1, 2, none⟩ = some (.int .u64 c') := Qb.out.cell 2
  have xb3 : w3.cell? ⟨w.heap.size + 1, 3, none⟩ = some (.string p') := Qb.out.cell 3
  have xb4 : w3.cell? ⟨w.heap.size + 1, 4, none⟩ = some (.string m') := Qb.out.cell 4
  go_wp2_with fail
  go_at_call 19
  refine (svGood1 a' b' c' p' m' s1.1 s1.2 _ _ _ (by simp)).mono ?_
  rintro e w4 ⟨rfl, hb⟩
  replace Qa := hid (((Qa.out.alloc _)).below hb)
  replace Qb := hid (((Qb.out.alloc _)).below hb)
  replace Z := hid (Nat.le_trans (Nat.le_trans Z.out (by first | exact Nat.le_refl _ | omega | (simp only [World.size_alloc, World.size_drew]; omega))) hb.size)
  replace B := hid (bt (B.out.alloc (by have := B.out.size; first | omega | (simp only [World.size_alloc]; omega)) _) hb)
  clear hb
  have xa0 : w4.cell? ⟨w.heap.size, 0, none⟩ = some (.int .i64 o) := Qa.out.cell 0
  have xa1 : w4.cell? ⟨w.heap.size, 1, none⟩ = some (.int .i64 k) := Qa.out.cell 1
  have xa2 : w4.cell? ⟨w.heap.size, 2, none⟩ = some (.int .u64 a) := Qa.out.cell 2
  have xa3 : w4.cell? ⟨w.heap.size, 3, none⟩ = some (.int .u64 b) := Qa.out.cell 3
  have xa4 : w4.cell? ⟨w.heap.size, 4, none⟩ = some (.int .u64 c) := Qa.out.cell 4
  have xa5 : w4.cell? ⟨w.heap.size, 5, none⟩ = some (.string p) := Qa.out.cell 5
  have xb0 : w4.cell? ⟨w.heap.size + 1, 0, none⟩ = some (.int .u64 a') := Qb.out.cell 0
  have xb1 : w4.cell? ⟨w.heap.size + 1, 1, none⟩ = some (.int .u64 b') := Qb.out.cell 1
  have xb2 : w4.cell? ⟨w.heap.size + 1, 2, none⟩ = some (.int .u64 c') := Qb.out.cell 2
  have xb3 : w4.cell? ⟨w.heap.size + 1, 3, none⟩ = some (.string p') := Qb.out.cell 3
  have xb4 : w4.cell? ⟨w.heap.size + 1, 4, none⟩ = some (.string m') := Qb.out.cell 4
  go_wp2_with fail
  go_ret
  exact ⟨rfl, B.out⟩

set_option maxHeartbeats 800000 in
set_option maxRecDepth 100000 in
theorem letin_full_t (o k : Nat) (a b c : Int) (p : ByteArray) (a' b' c' : Int) (p' m' : ByteArray) (w : World) (hp : p.size ≤ maxLen) (hp' : p'.size ≤ maxLen) (hm' : m'.size ≤ maxLen) (hv : Vars w) (f0 : decide (p.size ≤ 2147483647) = true) (f1 : fitB p' m' = true) (s0 : p.size ≤ 2147483647) (s1 : p'.size ≤ 2147483647 ∧ m'.size ≤ 2147483647) (ho : o < 8) (hk : k ≤ 3) (f2 : goodT o k a b c p = true) (f3 : verOk ⟨0, 0, 0, p', m'⟩ = true) (he : p'.toList.isEmpty = false) (r1 r2 : Bool) (hrr : r1 = false) (hr2v : r2 = true) (hr1 : ∀ g h, OpIs (opF o) g h a' b' c' p' m' a b c p ByteArray.empty (opS o) ByteArray.empty (k == 1) (decide (k < 3)) (k == 2) false r1) (hr2 : ∀ g h, OpIs (opF o) g h a' b' c' p' m' a b c p ByteArray.empty (opS o) ByteArray.empty (k == 1) (decide (k < 3)) (k == 2) true r2) (hr3 : ∀ g h, OpIs (opF 4) g h a' b' c' p' m' a' b' c' p' ByteArray.empty (opS 4) ByteArray.empty (3 == 1) (decide (3 < 3)) (3 == 2) true true) :
    Calls Tryd.prog 10 #[.agg #[.int .i64 (o : Int), .int .i64 (k : Int), .int .u64 a, .int .u64 b, .int .u64 c, .string p], .agg (scells a' b' c' p' m')] w fun e w' => e = .returned (.bool true) ∧ Below w.heap.size w w' := by
  subst hr2v
  subst hrr
  have B := hid (show Below w.heap.size w ((w.alloc (.cells #[.int .i64 (o : Int), .int .i64 (k : Int), .int .u64 a, .int .u64 b, .int .u64 c, .string p] 36)).alloc (.cells #[.int .u64 a', .int .u64 b', .int .u64 c', .string p', .string m'] 27)) by go_grown)
  have Z := hid (show w.heap.size + 2 ≤ ((w.alloc (.cells #[.int .i64 (o : Int), .int .i64 (k : Int), .int .u64 a, .int .u64 b, .int .u64 c, .string p] 36)).alloc (.cells #[.int .u64 a', .int .u64 b', .int .u64 c', .string p', .string m'] 27)).heap.size by simp only [World.size_alloc]; omega)
  obtain ⟨qa, qb⟩ := two_new w (#[.int .i64 (o : Int), .int .i64 (k : Int), .int .u64 a, .int .u64 b, .int .u64 c, .string p]) (#[.int .u64 a', .int .u64 b', .int .u64 c', .string p', .string m']) 36 27
  have Qa := hid qa
  have Qb := hid qb
  clear qa qb
  have HV := hid hv
  clear hv
  have HR1 := hid hr1
  clear hr1
  have HR2 := hid hr2
  clear hr2
  have HR3 := hid hr3
  clear hr3
  go_enter Tryd.func10, Tryd.ntmps10
  go_wp2_with fail
  go_at_call 25
  refine (fits13_any _ _ a b c p _ hp).mono ?_
  rintro e w1 ⟨rfl, hb⟩
  replace Qa := hid ((Qa.out).below hb)
  replace Qb := hid ((Qb.out).below hb)
  replace Z := hid (Nat.le_trans (Nat.le_trans Z.out (by first | exact Nat.le_refl _ | omega | (simp only [World.size_alloc, World.size_drew]; omega))) hb.size)
  replace B := hid (bt B.out hb)
  clear hb
  have xa0 : w1.cell? ⟨w.heap.size, 0, none⟩ = some (.int .i64 (o : Int)) := Qa.out.cell 0
  have xa1 : w1.cell? ⟨w.heap.size, 1, none⟩ = some (.int .i64 (k : Int)) := Qa.out.cell 1
  have xa2 : w1.cell? ⟨w.heap.size, 2, none⟩ = some (.int .u64 a) := Qa.out.cell 2
  have xa3 : w1.cell? ⟨w.heap.size, 3, none⟩ = some (.int .u64 b) := Qa.out.cell 3
  have xa4 : w1.cell? ⟨w.heap.size, 4, none⟩ = some (.int .u64 c) := Qa.out.cell 4
  have xa5 : w1.cell? ⟨w.heap.size, 5, none⟩ = some (.string p) := Qa.out.cell 5
  have xb0 : w1.cell? ⟨w.heap.size + 1, 0, none⟩ = some (.int .u64 a') := Qb.out.cell 0
  have xb1 : w1.cell? ⟨w.heap.size + 1, 1, none⟩ = some (.int .u64 b') := Qb.out.cell 1
  have xb2 : w1.cell? ⟨w.heap.size + 1, 2, none⟩ = some (.int .u64 c') := Qb.out.cell 2
  have xb3 : w1.cell? ⟨w.heap.size + 1, 3, none⟩ = some (.string p') := Qb.out.cell 3
  have xb4 : w1.cell? ⟨w.heap.size + 1, 4, none⟩ = some (.string m') := Qb.out.cell 4
  go_wp2_with fail
  go_at_call 17
  refine (fitB_any a' b' c' p' m' _ hp' hm').mono ?_
  rintro e w2 ⟨rfl, hb⟩
  replace Qa := hid ((Qa.out).below hb)
  replace Qb := hid ((Qb.out).below hb)
  replace Z := hid (Nat.le_trans (Nat.le_trans Z.out (by first | exact Nat.le_refl _ | omega | (simp only [World.size_alloc, World.size_drew]; omega))) hb.size)
  replace B := hid (bt B.out hb)
  clear hb
  have xa0 : w2.cell? ⟨w.heap.size, 0, none⟩ = some (.int .i64 (o : Int)) := Qa.out.cell 0
  have xa1 : w2.cell? ⟨w.heap.size, 1, none⟩ = some (.int .i64 (k : Int)) := Qa.out.cell 1
  have xa2 : w2.cell? ⟨w.heap.size, 2, none⟩ = some (.int .u64 a) := Qa.out.cell 2
  have xa3 : w2.cell? ⟨w.heap.size, 3, none⟩ = some (.int .u64 b) := Qa.out.cell 3
  have xa4 : w2.cell? ⟨w.heap.size, 4, none⟩ = some (.int .u64 c) := Qa.out.cell 4
  have xa5 : w2.cell? ⟨w.heap.size, 5, none⟩ = some (.string p) := Qa.out.cell 5
  have xb0 : w2.cell? ⟨w.heap.size + 1, 0, none⟩ = some (.int .u64 a') := Qb.out.cell 0
  have xb1 : w2.cell? ⟨w.heap.size + 1, 1, none⟩ = some (.int .u64 b') := Qb.out.cell 1
  have xb2 : w2.cell? ⟨w.heap.size + 1, 2, none⟩ = some (.int .u64 c') := Qb.out.cell 2
  have xb3 : w2.cell? ⟨w.heap.size + 1, 3, none⟩ = some (.string p') := Qb.out.cell 3
  have xb4 : w2.cell? ⟨w.heap.size + 1, 4, none⟩ = some (.string m') := Qb.out.cell 4
  go_wp2_with fail
  go_at_call 34
  refine (goodTerm_any _ _ a b c p _ s0).mono ?_
  rintro e w3 ⟨rfl, hb⟩
  replace Qa := hid ((Qa.out).below hb)
  replace Qb := hid ((Qb.out).below hb)
  replace Z := hid (Nat.le_trans (Nat.le_trans Z.out (by first | exact Nat.le_refl _ | omega | (simp only [World.size_alloc, World.size_drew]; omega))) hb.size)
  replace B := hid (bt B.out hb)
  clear hb
  have xa0 : w3.cell? ⟨w.heap.size, 0, none⟩ = some (.int .i64 (o : Int)) := Qa.out.cell 0
  have xa1 : w3.cell? ⟨w.heap.size, 1, none⟩ = some (.int .i64 (k : Int)) := Qa.out.cell 1
  have xa2 : w3.cell? ⟨w.heap.size, 2, none⟩ = some (.int .u64 a) := Qa.out.cell 2
  have xa3 : w3.cell? ⟨w.heap.size, 3, none⟩ = some (.int .u64 b) := Qa.out.cell 3
  have xa4 : w3.cell? ⟨w.heap.size, 4, none⟩ = some (.int .u64 c) := Qa.out.cell 4
  have xa5 : w3.cell? ⟨w.heap.size, 5, none⟩ = some (.string p) := Qa.out.cell 5
  have xb0 : w3.cell? ⟨w.heap.size + 1, 0, none⟩ = some (.int .u64 a') := Qb.out.cell 0
  have xb1 : w3.cell? ⟨w.heap.size + 1, 1, none⟩ = some (.int .u64 b') := Qb.out.cell 1
  have xb2 : w3.cell? ⟨w.heap.size + 1, 2, none⟩ = some (.int .u64 c') := Qb.out.cell 2
  have xb3 : w3.cell? ⟨w.heap.size + 1, 3, none⟩ = some (.string p') := Qb.out.cell 3
  have xb4 : w3.cell? ⟨w.heap.size + 1, 4, none⟩ = some (.string m') := Qb.out.cell 4
  go_wp2_with fail
  go_at_call 19
  refine (svGood1 a' b' c' p' m' s1.1 s1.2 _ _ _ (by simp)).mono ?_
  rintro e w4 ⟨rfl, hb⟩
  replace Qa := hid (((Qa.out.alloc _)).below hb)
  replace Qb := hid (((Qb.out.alloc _)).below hb)
  replace Z := hid (Nat.le_trans (Nat.le_trans Z.out (by first | exact Nat.le_refl _ | omega | (simp only [World.size_alloc, World.size_drew]; omega))) hb.size)
  replace B := hid (bt (B.out.alloc (by have := B.out.size; first | omega | (simp only [World.size_alloc]; omega)) _) hb)
  clear hb
  have xa0 : w4.cell? ⟨w.heap.size, 0, none⟩ = some (.int .i64 (o : Int)) := Qa.out.cell 0
  have xa1 : w4.cell? ⟨w.heap.size, 1, none⟩ = some (.int .i64 (k : Int)) := Qa.out.cell 1
  have xa2 : w4.cell? ⟨w.heap.size, 2, none⟩ = some (.int .u64 a) := Qa.out.cell 2
  have xa3 : w4.cell? ⟨w.heap.size, 3, none⟩ = some (.int .u64 b) := Qa.out.cell 3
  have xa4 : w4.cell? ⟨w.heap.size, 4, none⟩ = some (.int .u64 c) := Qa.out.cell 4
  have xa5 : w4.cell? ⟨w.heap.size, 5, none⟩ = some (.string p) := Qa.out.cell 5
  have xb0 : w4.cell? ⟨w.heap.size + 1, 0, none⟩ = some (.int .u64 a') := Qb.out.cell 0
  have xb1 : w4.cell? ⟨w.heap.size + 1, 1, none⟩ = some (.int .u64 b') := Qb.out.cell 1
  have xb2 : w4.cell? ⟨w.heap.size + 1, 2, none⟩ = some (.int .u64 c') := Qb.out.cell 2
  have xb3 : w4.cell? ⟨w.heap.size + 1, 3, none⟩ = some (.string p') := Qb.out.cell 3
  have xb4 : w4.cell? ⟨w.heap.size + 1, 4, none⟩ = some (.string m') := Qb.out.cell 4
  go_wp2_with fail
  have C1 := hid (fun d os => Calls.regrown_of (termHolds_at o k ho hk _ _ rfl rfl a' b' c' p' m' a b c p false _ (Go.Sort.grow (redrawn w4 d) os) (HV.out.below (bt B.out (below_regrown w4 d os))) HR1.out))
  have C3 := hid (fun d os => Calls.regrown_of (termHolds_at 4 3 (by omega) (by omega) _ _ rfl rfl a' b' c' p' m' a' b' c' p' true true (Go.Sort.grow (redrawn w4 d) os) (HV.out.below (bt B.out (below_regrown w4 d os))) HR3.out))
  have C2 := hid (fun d os => Calls.regrown_of (termHolds_at o k ho hk _ _ rfl rfl a' b' c' p' m' a b c p true _ (Go.Sort.grow (redrawn w4 d) os) (HV.out.below (bt B.out (below_regrown w4 d os))) HR2.out))
  have C4 := hid (fun d os => Calls.regrown_of (stTerm_3 4 a' b' c' p' m' (Go.Sort.grow (redrawn w4 d) os)))
  have kQa0 : ∀ d os, (Go.Sort.grow (redrawn w4 d) os).cell? ⟨w.heap.size, 0, none⟩ = some (.int .i64 (o : Int)) := fun d os => (blk_gr Qa.out d os).cell 0
  have kQa1 : ∀ d os, (Go.Sort.grow (redrawn w4 d) os).cell? ⟨w.heap.size, 1, none⟩ = some (.int .i64 (k : Int)) := fun d os => (blk_gr Qa.out d os).cell 1
  have kQa2 : ∀ d os, (Go.Sort.grow (redrawn w4 d) os).cell? ⟨w.heap.size, 2, none⟩ = some (.int .u64 a) := fun d os => (blk_gr Qa.out d os).cell 2
  have kQa3 : ∀ d os, (Go.Sort.grow (redrawn w4 d) os).cell? ⟨w.heap.size, 3, none⟩ = some (.int .u64 b) := fun d os => (blk_gr Qa.out d os).cell 3
  have kQa4 : ∀ d os, (Go.Sort.grow (redrawn w4 d) os).cell? ⟨w.heap.size, 4, none⟩ = some (.int .u64 c) := fun d os => (blk_gr Qa.out d os).cell 4
  have kQa5 : ∀ d os, (Go.Sort.grow (redrawn w4 d) os).cell? ⟨w.heap.size, 5, none⟩ = some (.string p) := fun d os => (blk_gr Qa.out d os).cell 5
  have kQb0 : ∀ d os, (Go.Sort.grow (redrawn w4 d) os).cell? ⟨w.heap.size + 1, 0, none⟩ = some (.int .u64 a') := fun d os => (blk_gr Qb.out d os).cell 0
  have kQb1 : ∀ d os, (Go.Sort.grow (redrawn w4 d) os).cell? ⟨w.heap.size + 1, 1, none⟩ = some (.int .u64 b') := fun d os => (blk_gr Qb.out d os).cell 1
  have kQb2 : ∀ d os, (Go.Sort.grow (redrawn w4 d) os).cell? ⟨w.heap.size + 1, 2, none⟩ = some (.int .u64 c') := fun d os => (blk_gr Qb.out d os).cell 2
  have kQb3 : ∀ d os, (Go.Sort.grow (redrawn w4 d) os).cell? ⟨w.heap.size + 1, 3, none⟩ = some (.string p') := fun d os => (blk_gr Qb.out d os).cell 3
  have kQb4 : ∀ d os, (Go.Sort.grow (redrawn w4 d) os).cell? ⟨w.heap.size + 1, 4, none⟩ = some (.string m') := fun d os => (blk_gr Qb.out d os).cell 4
  refine wp_region_quiet_below (by kernel_rfl) (by kernel_rfl) ?_
  repeat (go_big_quiet_step ((first | (go_at_call_of 35 (Value.bool false); exact C1.out _ _) | (go_at_call_of 35 (Value.int IntKind.i64 4); exact C3.out _ _) | (go_at_call 35; exact C2.out _ _) | (go_at_call 36; exact C4.out _ _) | fail)))
  refine wpQuiet_nil ?_
  intro _ hw'
  obtain ⟨⟨dq, osq⟩, hw''⟩ := hw'
  subst hw''
  go_wp2_with fail
  refine wp_region_gr (by kernel_rfl) (by kernel_rfl) ?_
  repeat (go_big_quiet_step ((first | (go_at_call_of 35 (Value.bool false); exact C1.out _ _) | (go_at_call_of 35 (Value.int IntKind.i64 4); exact C3.out _ _) | (go_at_call 35; exact C2.out _ _) | (go_at_call 36; exact C4.out _ _) | fail)))
  refine wpQuiet_nil ?_
  intro _ hw'
  obtain ⟨⟨dq2, osq2⟩, hw''⟩ := hw'
  subst hw''
  go_wp2_with fail
  go_ret
  exact ⟨rfl, bt B.out (below_regrown _ _ _)⟩

set_option maxHeartbeats 800000 in
set_option maxRecDepth 100000 in
theorem letin_full_f (o k : Nat) (a b c : Int) (p : ByteArray) (a' b' c' : Int) (p' m' : ByteArray) (w : World) (hp : p.size ≤ maxLen) (hp' : p'.size ≤ maxLen) (hm' : m'.size ≤ maxLen) (hv : Vars w) (f0 : decide (p.size ≤ 2147483647) = true) (f1 : fitB p' m' = true) (s0 : p.size ≤ 2147483647) (s1 : p'.size ≤ 2147483647 ∧ m'.size ≤ 2147483647) (ho : o < 8) (hk : k ≤ 3) (f2 : goodT o k a b c p = true) (f3 : verOk ⟨0, 0, 0, p', m'⟩ = true) (he : p'.toList.isEmpty = false) (r1 r2 : Bool) (hrr : r1 = false) (hr2v : r2 = false) (hr1 : ∀ g h, OpIs (opF o) g h a' b' c' p' m' a b c p ByteArray.empty (opS o) ByteArray.empty (k == 1) (decide (k < 3)) (k == 2) false r1) (hr2 : ∀ g h, OpIs (opF o) g h a' b' c' p' m' a b c p ByteArray.empty (opS o) ByteArray.empty (k == 1) (decide (k < 3)) (k == 2) true r2) (hr3 : ∀ g h, OpIs (opF 4) g h a' b' c' p' m' a' b' c' p' ByteArray.empty (opS 4) ByteArray.empty (3 == 1) (decide (3 < 3)) (3 == 2) true true) :
    Calls Tryd.prog 10 #[.agg #[.int .i64 (o : Int), .int .i64 (k : Int), .int .u64 a, .int .u64 b, .int .u64 c, .string p], .agg (scells a' b' c' p' m')] w fun e w' => e = .returned (.bool true) ∧ Below w.heap.size w w' := by
  subst hr2v
  subst hrr
  have B := hid (show Below w.heap.size w ((w.alloc (.cells #[.int .i64 (o : Int), .int .i64 (k : Int), .int .u64 a, .int .u64 b, .int .u64 c, .string p] 36)).alloc (.cells #[.int .u64 a', .int .u64 b', .int .u64 c', .string p', .string m'] 27)) by go_grown)
  have Z := hid (show w.heap.size + 2 ≤ ((w.alloc (.cells #[.int .i64 (o : Int), .int .i64 (k : Int), .int .u64 a, .int .u64 b, .int .u64 c, .string p] 36)).alloc (.cells #[.int .u64 a', .int .u64 b', .int .u64 c', .string p', .string m'] 27)).heap.size by simp only [World.size_alloc]; omega)
  obtain ⟨qa, qb⟩ := two_new w (#[.int .i64 (o : Int), .int .i64 (k : Int), .int .u64 a, .int .u64 b, .int .u64 c, .string p]) (#[.int .u64 a', .int .u64 b', .int .u64 c', .string p', .string m']) 36 27
  have Qa := hid qa
  have Qb := hid qb
  clear qa qb
  have HV := hid hv
  clear hv
  have HR1 := hid hr1
  clear hr1
  have HR2 := hid hr2
  clear hr2
  have HR3 := hid hr3
  clear hr3
  go_enter Tryd.func10, Tryd.ntmps10
  go_wp2_with fail
  go_at_call 25
  refine (fits13_any _ _ a b c p _ hp).mono ?_
  rintro e w1 ⟨rfl, hb⟩
  replace Qa := hid ((Qa.out).below hb)
  replace Qb := hid ((Qb.out).below hb)
  replace Z := hid (Nat.le_trans (Nat.le_trans Z.out (by first | exact Nat.le_refl _ | omega | (simp only [World.size_alloc, World.size_drew]; omega))) hb.size)
  replace B := hid (bt B.out hb)
  clear hb
  have xa0 : w1.cell? ⟨w.heap.size, 0, none⟩ = some (.int .i64 (o : Int)) := Qa.out.cell 0
  have xa1 : w1.cell? ⟨w.heap.size, 1, none⟩ = some (.int .i64 (k : Int)) := Qa.out.cell 1
  have xa2 : w1.cell? ⟨w.heap.size, 2, none⟩ = some (.int .u64 a) := Qa.out.cell 2
  have xa3 : w1.cell? ⟨w.heap.size, 3, none⟩ = some (.int .u64 b) := Qa.out.cell 3
  have xa4 : w1.cell? ⟨w.heap.size, 4, none⟩ = some (.int .u64 c) := Qa.out.cell 4
  have xa5 : w1.cell? ⟨w.heap.size, 5, none⟩ = some (.string p) := Qa.out.cell 5
  have xb0 : w1.cell? ⟨w.heap.size + 1, 0, none⟩ = some (.int .u64 a') := Qb.out.cell 0
  have xb1 : w1.cell? ⟨w.heap.size + 1, 1, none⟩ = some (.int .u64 b') := Qb.out.cell 1
  have xb2 : w1.cell? ⟨w.heap.size + 1, 2, none⟩ = some (.int .u64 c') := Qb.out.cell 2
  have xb3 : w1.cell? ⟨w.heap.size + 1, 3, none⟩ = some (.string p') := Qb.out.cell 3
  have xb4 : w1.cell? ⟨w.heap.size + 1, 4, none⟩ = some (.string m') := Qb.out.cell 4
  go_wp2_with fail
  go_at_call 17
  refine (fitB_any a' b' c' p' m' _ hp' hm').mono ?_
  rintro e w2 ⟨rfl, hb⟩
  replace Qa := hid ((Qa.out).below hb)
  replace Qb := hid ((Qb.out).below hb)
  replace Z := hid (Nat.le_trans (Nat.le_trans Z.out (by first | exact Nat.le_refl _ | omega | (simp only [World.size_alloc, World.size_drew]; omega))) hb.size)
  replace B := hid (bt B.out hb)
  clear hb
  have xa0 : w2.cell? ⟨w.heap.size, 0, none⟩ = some (.int .i64 (o : Int)) := Qa.out.cell 0
  have xa1 : w2.cell? ⟨w.heap.size, 1, none⟩ = some (.int .i64 (k : Int)) := Qa.out.cell 1
  have xa2 : w2.cell? ⟨w.heap.size, 2, none⟩ = some (.int .u64 a) := Qa.out.cell 2
  have xa3 : w2.cell? ⟨w.heap.size, 3, none⟩ = some (.int .u64 b) := Qa.out.cell 3
  have xa4 : w2.cell? ⟨w.heap.size, 4, none⟩ = some (.int .u64 c) := Qa.out.cell 4
  have xa5 : w2.cell? ⟨w.heap.size, 5, none⟩ = some (.string p) := Qa.out.cell 5
  have xb0 : w2.cell? ⟨w.heap.size + 1, 0, none⟩ = some (.int .u64 a') := Qb.out.cell 0
  have xb1 : w2.cell? ⟨w.heap.size + 1, 1, none⟩ = some (.int .u64 b') := Qb.out.cell 1
  have xb2 : w2.cell? ⟨w.heap.size + 1, 2, none⟩ = some (.int .u64 c') := Qb.out.cell 2
  have xb3 : w2.cell? ⟨w.heap.size + 1, 3, none⟩ = some (.string p') := Qb.out.cell 3
  have xb4 : w2.cell? ⟨w.heap.size + 1, 4, none⟩ = some (.string m') := Qb.out.cell 4
  go_wp2_with fail
  go_at_call 34
  refine (goodTerm_any _ _ a b c p _ s0).mono ?_
  rintro e w3 ⟨rfl, hb⟩
  replace Qa := hid ((Qa.out).below hb)
  replace Qb := hid ((Qb.out).below hb)
  replace Z := hid (Nat.le_trans (Nat.le_trans Z.out (by first | exact Nat.le_refl _ | omega | (simp only [World.size_alloc, World.size_drew]; omega))) hb.size)
  replace B := hid (bt B.out hb)
  clear hb
  have xa0 : w3.cell? ⟨w.heap.size, 0, none⟩ = some (.int .i64 (o : Int)) := Qa.out.cell 0
  have xa1 : w3.cell? ⟨w.heap.size, 1, none⟩ = some (.int .i64 (k : Int)) := Qa.out.cell 1
  have xa2 : w3.cell? ⟨w.heap.size, 2, none⟩ = some (.int .u64 a) := Qa.out.cell 2
  have xa3 : w3.cell? ⟨w.heap.size, 3, none⟩ = some (.int .u64 b) := Qa.out.cell 3
  have xa4 : w3.cell? ⟨w.heap.size, 4, none⟩ = some (.int .u64 c) := Qa.out.cell 4
  have xa5 : w3.cell? ⟨w.heap.size, 5, none⟩ = some (.string p) := Qa.out.cell 5
  have xb0 : w3.cell? ⟨w.heap.size + 1, 0, none⟩ = some (.int .u64 a') := Qb.out.cell 0
  have xb1 : w3.cell? ⟨w.heap.size + 1, 1, none⟩ = some (.int .u64 b') := Qb.out.cell 1
  have xb2 : w3.cell? ⟨w.heap.size + 1, 2, none⟩ = some (.int .u64 c') := Qb.out.cell 2
  have xb3 : w3.cell? ⟨w.heap.size + 1, 3, none⟩ = some (.string p') := Qb.out.cell 3
  have xb4 : w3.cell? ⟨w.heap.size + 1, 4, none⟩ = some (.string m') := Qb.out.cell 4
  go_wp2_with fail
  go_at_call 19
  refine (svGood1 a' b' c' p' m' s1.1 s1.2 _ _ _ (by simp)).mono ?_
  rintro e w4 ⟨rfl, hb⟩
  replace Qa := hid (((Qa.out.alloc _)).below hb)
  replace Qb := hid (((Qb.out.alloc _)).below hb)
  replace Z := hid (Nat.le_trans (Nat.le_trans Z.out (by first | exact Nat.le_refl _ | omega | (simp only [World.size_alloc, World.size_drew]; omega))) hb.size)
  replace B := hid (bt (B.out.alloc (by have := B.out.size; first | omega | (simp only [World.size_alloc]; omega)) _) hb)
  clear hb
  have xa0 : w4.cell? ⟨w.heap.size, 0, none⟩ = some (.int .i64 (o : Int)) := Qa.out.cell 0
  have xa1 : w4.cell? ⟨w.heap.size, 1, none⟩ = some (.int .i64 (k : Int)) := Qa.out.cell 1
  have xa2 : w4.cell? ⟨w.heap.size, 2, none⟩ = some (.int .u64 a) := Qa.out.cell 2
  have xa3 : w4.cell? ⟨w.heap.size, 3, none⟩ = some (.int .u64 b) := Qa.out.cell 3
  have xa4 : w4.cell? ⟨w.heap.size, 4, none⟩ = some (.int .u64 c) := Qa.out.cell 4
  have xa5 : w4.cell? ⟨w.heap.size, 5, none⟩ = some (.string p) := Qa.out.cell 5
  have xb0 : w4.cell? ⟨w.heap.size + 1, 0, none⟩ = some (.int .u64 a') := Qb.out.cell 0
  have xb1 : w4.cell? ⟨w.heap.size + 1, 1, none⟩ = some (.int .u64 b') := Qb.out.cell 1
  have xb2 : w4.cell? ⟨w.heap.size + 1, 2, none⟩ = some (.int .u64 c') := Qb.out.cell 2
  have xb3 : w4.cell? ⟨w.heap.size + 1, 3, none⟩ = some (.string p') := Qb.out.cell 3
  have xb4 : w4.cell? ⟨w.heap.size + 1, 4, none⟩ = some (.string m') := Qb.out.cell 4
  go_wp2_with fail
  have C1 := hid (fun d os => Calls.regrown_of (termHolds_at o k ho hk _ _ rfl rfl a' b' c' p' m' a b c p false _ (Go.Sort.grow (redrawn w4 d) os) (HV.out.below (bt B.out (below_regrown w4 d os))) HR1.out))
  have C3 := hid (fun d os => Calls.regrown_of (termHolds_at 4 3 (by omega) (by omega) _ _ rfl rfl a' b' c' p' m' a' b' c' p' true true (Go.Sort.grow (redrawn w4 d) os) (HV.out.below (bt B.out (below_regrown w4 d os))) HR3.out))
  have C2 := hid (fun d os => Calls.regrown_of (termHolds_at o k ho hk _ _ rfl rfl a' b' c' p' m' a b c p true _ (Go.Sort.grow (redrawn w4 d) os) (HV.out.below (bt B.out (below_regrown w4 d os))) HR2.out))
  have C4 := hid (fun d os => Calls.regrown_of (stTerm_3 4 a' b' c' p' m' (Go.Sort.grow (redrawn w4 d) os)))
  have kQa0 : ∀ d os, (Go.Sort.grow (redrawn w4 d) os).cell? ⟨w.heap.size, 0, none⟩ = some (.int .i64 (o : Int)) := fun d os => (blk_gr Qa.out d os).cell 0
  have kQa1 : ∀ d os, (Go.Sort.grow (redrawn w4 d) os).cell? ⟨w.heap.size, 1, none⟩ = some (.int .i64 (k : Int)) := fun d os => (blk_gr Qa.out d os).cell 1
  have kQa2 : ∀ d os, (Go.Sort.grow (redrawn w4 d) os).cell? ⟨w.heap.size, 2, none⟩ = some (.int .u64 a) := fun d os => (blk_gr Qa.out d os).cell 2
  have kQa3 : ∀ d os, (Go.Sort.grow (redrawn w4 d) os).cell? ⟨w.heap.size, 3, none⟩ = some (.int .u64 b) := fun d os => (blk_gr Qa.out d os).cell 3
  have kQa4 : ∀ d os, (Go.Sort.grow (redrawn w4 d) os).cell? ⟨w.heap.size, 4, none⟩ = some (.int .u64 c) := fun d os => (blk_gr Qa.out d os).cell 4
  have kQa5 : ∀ d os, (Go.Sort.grow (redrawn w4 d) os).cell? ⟨w.heap.size, 5, none⟩ = some (.string p) := fun d os => (blk_gr Qa.out d os).cell 5
  have kQb0 : ∀ d os, (Go.Sort.grow (redrawn w4 d) os).cell? ⟨w.heap.size + 1, 0, none⟩ = some (.int .u64 a') := fun d os => (blk_gr Qb.out d os).cell 0
  have kQb1 : ∀ d os, (Go.Sort.grow (redrawn w4 d) os).cell? ⟨w.heap.size + 1, 1, none⟩ = some (.int .u64 b') := fun d os => (blk_gr Qb.out d os).cell 1
  have kQb2 : ∀ d os, (Go.Sort.grow (redrawn w4 d) os).cell? ⟨w.heap.size + 1, 2, none⟩ = some (.int .u64 c') := fun d os => (blk_gr Qb.out d os).cell 2
  have kQb3 : ∀ d os, (Go.Sort.grow (redrawn w4 d) os).cell? ⟨w.heap.size + 1, 3, none⟩ = some (.string p') := fun d os => (blk_gr Qb.out d os).cell 3
  have kQb4 : ∀ d os, (Go.Sort.grow (redrawn w4 d) os).cell? ⟨w.heap.size + 1, 4, none⟩ = some (.string m') := fun d os => (blk_gr Qb.out d os).cell 4
  refine wp_region_quiet_below (by kernel_rfl) (by kernel_rfl) ?_
  repeat (go_big_quiet_step ((first | (go_at_call_of 35 (Value.bool false); exact C1.out _ _) | (go_at_call_of 35 (Value.int IntKind.i64 4); exact C3.out _ _) | (go_at_call 35; exact C2.out _ _) | (go_at_call 36; exact C4.out _ _) | fail)))
  refine wpQuiet_nil ?_
  intro _ hw'
  obtain ⟨⟨dq, osq⟩, hw''⟩ := hw'
  subst hw''
  go_wp2_with fail
  refine wp_region_gr (by kernel_rfl) (by kernel_rfl) ?_
  repeat (go_big_quiet_step ((first | (go_at_call_of 35 (Value.bool false); exact C1.out _ _) | (go_at_call_of 35 (Value.int IntKind.i64 4); exact C3.out _ _) | (go_at_call 35; exact C2.out _ _) | (go_at_call 36; exact C4.out _ _) | fail)))
  refine wpQuiet_nil ?_
  intro _ hw'
  obtain ⟨⟨dq2, osq2⟩, hw''⟩ := hw'
  subst hw''
  go_wp2_with fail
  go_ret
  exact ⟨rfl, bt B.out (below_regrown _ _ _)⟩

set_option maxHeartbeats 800000 in
set_option maxRecDepth 100000 in
theorem letin_bare_t (o k : Nat) (a b c : Int) (p : ByteArray) (a' b' c' : Int) (p' m' : ByteArray) (w : World) (hp : p.size ≤ maxLen) (hp' : p'.size ≤ maxLen) (hm' : m'.size ≤ maxLen) (hv : Vars w) (f0 : decide (p.size ≤ 2147483647) = true) (f1 : fitB p' m' = true) (s0 : p.size ≤ 2147483647) (s1 : p'.size ≤ 2147483647 ∧ m'.size ≤ 2147483647) (ho : o < 8) (hk : k ≤ 3) (f2 : goodT o k a b c p = true) (f3 : verOk ⟨0, 0, 0, p', m'⟩ = true) (he : p'.toList.isEmpty = true) (r1 r2 : Bool) (hrr : r1 = r2) (hr2v : r2 = true) (hr1 : ∀ g h, OpIs (opF o) g h a' b' c' p' m' a b c p ByteArray.empty (opS o) ByteArray.empty (k == 1) (decide (k < 3)) (k == 2) false r1) (hr2 : ∀ g h, OpIs (opF o) g h a' b' c' p' m' a b c p ByteArray.empty (opS o) ByteArray.empty (k == 1) (decide (k < 3)) (k == 2) true r2) (hr3 : ∀ g h, OpIs (opF 4) g h a' b' c' p' m' a' b' c' p' ByteArray.empty (opS 4) ByteArray.empty (3 == 1) (decide (3 < 3)) (3 == 2) true true) :
    Calls Tryd.prog 10 #[.agg #[.int .i64 (o : Int), .int .i64 (k : Int), .int .u64 a, .int .u64 b, .int .u64 c, .string p], .agg (scells a' b' c' p' m')] w fun e w' => e = .returned (.bool true) ∧ Below w.heap.size w w' := by
  subst hr2v
  subst hrr
  have B := hid (show Below w.heap.size w ((w.alloc (.cells #[.int .i64 (o : Int), .int .i64 (k : Int), .int .u64 a, .int .u64 b, .int .u64 c, .string p] 36)).alloc (.cells #[.int .u64 a', .int .u64 b', .int .u64 c', .string p', .string m'] 27)) by go_grown)
  have Z := hid (show w.heap.size + 2 ≤ ((w.alloc (.cells #[.int .i64 (o : Int), .int .i64 (k : Int), .int .u64 a, .int .u64 b, .int .u64 c, .string p] 36)).alloc (.cells #[.int .u64 a', .int .u64 b', .int .u64 c', .string p', .string m'] 27)).heap.size by simp only [World.size_alloc]; omega)
  obtain ⟨qa, qb⟩ := two_new w (#[.int .i64 (o : Int), .int .i64 (k : Int), .int .u64 a, .int .u64 b, .int .u64 c, .string p]) (#[.int .u64 a', .int .u64 b', .int .u64 c', .string p', .string m']) 36 27
  have Qa := hid qa
  have Qb := hid qb
  clear qa qb
  have HV := hid hv
  clear hv
  have HR1 := hid hr1
  clear hr1
  have HR2 := hid hr2
  clear hr2
  have HR3 := hid hr3
  clear hr3
  go_enter Tryd.func10, Tryd.ntmps10
  go_wp2_with fail
  go_at_call 25
  refine (fits13_any _ _ a b c p _ hp).mono ?_
  rintro e w1 ⟨rfl, hb⟩
  replace Qa := hid ((Qa.out).below hb)
  replace Qb := hid ((Qb.out).below hb)
  replace Z := hid (Nat.le_trans (Nat.le_trans Z.out (by first | exact Nat.le_refl _ | omega | (simp only [World.size_alloc, World.size_drew]; omega))) hb.size)
  replace B := hid (bt B.out hb)
  clear hb
  have xa0 : w1.cell? ⟨w.heap.size, 0, none⟩ = some (.int .i64 (o : Int)) := Qa.out.cell 0
  have xa1 : w1.cell? ⟨w.heap.size, 1, none⟩ = some (.int .i64 (k : Int)) := Qa.out.cell 1
  have xa2 : w1.cell? ⟨w.heap.size, 2, none⟩ = some (.int .u64 a) := Qa.out.cell 2
  have xa3 : w1.cell? ⟨w.heap.size, 3, none⟩ = some (.int .u64 b) := Qa.out.cell 3
  have xa4 : w1.cell? ⟨w.heap.size, 4, none⟩ = some (.int .u64 c) := Qa.out.cell 4
  have xa5 : w1.cell? ⟨w.heap.size, 5, none⟩ = some (.string p) := Qa.out.cell 5
  have xb0 : w1.cell? ⟨w.heap.size + 1, 0, none⟩ = some (.int .u64 a') := Qb.out.cell 0
  have xb1 : w1.cell? ⟨w.heap.size + 1, 1, none⟩ = some (.int .u64 b') := Qb.out.cell 1
  have xb2 : w1.cell? ⟨w.heap.size + 1, 2, none⟩ = some (.int .u64 c') := Qb.out.cell 2
  have xb3 : w1.cell? ⟨w.heap.size + 1, 3, none⟩ = some (.string p') := Qb.out.cell 3
  have xb4 : w1.cell? ⟨w.heap.size + 1, 4, none⟩ = some (.string m') := Qb.out.cell 4
  go_wp2_with fail
  go_at_call 17
  refine (fitB_any a' b' c' p' m' _ hp' hm').mono ?_
  rintro e w2 ⟨rfl, hb⟩
  replace Qa := hid ((Qa.out).below hb)
  replace Qb := hid ((Qb.out).below hb)
  replace Z := hid (Nat.le_trans (Nat.le_trans Z.out (by first | exact Nat.le_refl _ | omega | (simp only [World.size_alloc, World.size_drew]; omega))) hb.size)
  replace B := hid (bt B.out hb)
  clear hb
  have xa0 : w2.cell? ⟨w.heap.size, 0, none⟩ = some (.int .i64 (o : Int)) := Qa.out.cell 0
  have xa1 : w2.cell? ⟨w.heap.size, 1, none⟩ = some (.int .i64 (k : Int)) := Qa.out.cell 1
  have xa2 : w2.cell? ⟨w.heap.size, 2, none⟩ = some (.int .u64 a) := Qa.out.cell 2
  have xa3 : w2.cell? ⟨w.heap.size, 3, none⟩ = some (.int .u64 b) := Qa.out.cell 3
  have xa4 : w2.cell? ⟨w.heap.size, 4, none⟩ = some (.int .u64 c) := Qa.out.cell 4
  have xa5 : w2.cell? ⟨w.heap.size, 5, none⟩ = some (.string p) := Qa.out.cell 5
  have xb0 : w2.cell? ⟨w.heap.size + 1, 0, none⟩ = some (.int .u64 a') := Qb.out.cell 0
  have xb1 : w2.cell? ⟨w.heap.size + 1, 1, none⟩ = some (.int .u64 b') := Qb.out.cell 1
  have xb2 : w2.cell? ⟨w.heap.size + 1, 2, none⟩ = some (.int .u64 c') := Qb.out.cell 2
  have xb3 : w2.cell? ⟨w.heap.size + 1, 3, none⟩ = some (.string p') := Qb.out.cell 3
  have xb4 : w2.cell? ⟨w.heap.size + 1, 4, none⟩ = some (.string m') := Qb.out.cell 4
  go_wp2_with fail
  go_at_call 34
  refine (goodTerm_any _ _ a b c p _ s0).mono ?_
  rintro e w3 ⟨rfl, hb⟩
  replace Qa := hid ((Qa.out).below hb)
  replace Qb := hid ((Qb.out).below hb)
  replace Z := hid (Nat.le_trans (Nat.le_trans Z.out (by first | exact Nat.le_refl _ | omega | (simp only [World.size_alloc, World.size_drew]; omega))) hb.size)
  replace B := hid (bt B.out hb)
  clear hb
  have xa0 : w3.cell? ⟨w.heap.size, 0, none⟩ = some (.int .i64 (o : Int)) := Qa.out.cell 0
  have xa1 : w3.cell? ⟨w.heap.size, 1, none⟩ = some (.int .i64 (k : Int)) := Qa.out.cell 1
  have xa2 : w3.cell? ⟨w.heap.size, 2, none⟩ = some (.int .u64 a) := Qa.out.cell 2
  have xa3 : w3.cell? ⟨w.heap.size, 3, none⟩ = some (.int .u64 b) := Qa.out.cell 3
  have xa4 : w3.cell? ⟨w.heap.size, 4, none⟩ = some (.int .u64 c) := Qa.out.cell 4
  have xa5 : w3.cell? ⟨w.heap.size, 5, none⟩ = some (.string p) := Qa.out.cell 5
  have xb0 : w3.cell? ⟨w.heap.size + 1, 0, none⟩ = some (.int .u64 a') := Qb.out.cell 0
  have xb1 : w3.cell? ⟨w.heap.size + 1, 1, none⟩ = some (.int .u64 b') := Qb.out.cell 1
  have xb2 : w3.cell? ⟨w.heap.size + 1, 2, none⟩ = some (.int .u64 c') := Qb.out.cell 2
  have xb3 : w3.cell? ⟨w.heap.size + 1, 3, none⟩ = some (.string p') := Qb.out.cell 3
  have xb4 : w3.cell? ⟨w.heap.size + 1, 4, none⟩ = some (.string m') := Qb.out.cell 4
  go_wp2_with fail
  go_at_call 19
  refine (svGood1 a' b' c' p' m' s1.1 s1.2 _ _ _ (by simp)).mono ?_
  rintro e w4 ⟨rfl, hb⟩
  replace Qa := hid (((Qa.out.alloc _)).below hb)
  replace Qb := hid (((Qb.out.alloc _)).below hb)
  replace Z := hid (Nat.le_trans (Nat.le_trans Z.out (by first | exact Nat.le_refl _ | omega | (simp only [World.size_alloc, World.size_drew]; omega))) hb.size)
  replace B := hid (bt (B.out.alloc (by have := B.out.size; first | omega | (simp only [World.size_alloc]; omega)) _) hb)
  clear hb
  have xa0 : w4.cell? ⟨w.heap.size, 0, none⟩ = some (.int .i64 (o : Int)) := Qa.out.cell 0
  have xa1 : w4.cell? ⟨w.heap.size, 1, none⟩ = some (.int .i64 (k : Int)) := Qa.out.cell 1
  have xa2 : w4.cell? ⟨w.heap.size, 2, none⟩ = some (.int .u64 a) := Qa.out.cell 2
  have xa3 : w4.cell? ⟨w.heap.size, 3, none⟩ = some (.int .u64 b) := Qa.out.cell 3
  have xa4 : w4.cell? ⟨w.heap.size, 4, none⟩ = some (.int .u64 c) := Qa.out.cell 4
  have xa5 : w4.cell? ⟨w.heap.size, 5, none⟩ = some (.string p) := Qa.out.cell 5
  have xb0 : w4.cell? ⟨w.heap.size + 1, 0, none⟩ = some (.int .u64 a') := Qb.out.cell 0
  have xb1 : w4.cell? ⟨w.heap.size + 1, 1, none⟩ = some (.int .u64 b') := Qb.out.cell 1
  have xb2 : w4.cell? ⟨w.heap.size + 1, 2, none⟩ = some (.int .u64 c') := Qb.out.cell 2
  have xb3 : w4.cell? ⟨w.heap.size + 1, 3, none⟩ = some (.string p') := Qb.out.cell 3
  have xb4 : w4.cell? ⟨w.heap.size + 1, 4, none⟩ = some (.string m') := Qb.out.cell 4
  go_wp2_with fail
  have C1 := hid (fun d os => Calls.regrown_of (termHolds_at o k ho hk _ _ rfl rfl a' b' c' p' m' a b c p false _ (Go.Sort.grow (redrawn w4 d) os) (HV.out.below (bt B.out (below_regrown w4 d os))) HR1.out))
  have C3 := hid (fun d os => Calls.regrown_of (termHolds_at 4 3 (by omega) (by omega) _ _ rfl rfl a' b' c' p' m' a' b' c' p' true true (Go.Sort.grow (redrawn w4 d) os) (HV.out.below (bt B.out (below_regrown w4 d os))) HR3.out))
  have C2 := hid (fun d os => Calls.regrown_of (termHolds_at o k ho hk _ _ rfl rfl a' b' c' p' m' a b c p true _ (Go.Sort.grow (redrawn w4 d) os) (HV.out.below (bt B.out (below_regrown w4 d os))) HR2.out))
  have C4 := hid (fun d os => Calls.regrown_of (stTerm_3 4 a' b' c' p' m' (Go.Sort.grow (redrawn w4 d) os)))
  have kQa0 : ∀ d os, (Go.Sort.grow (redrawn w4 d) os).cell? ⟨w.heap.size, 0, none⟩ = some (.int .i64 (o : Int)) := fun d os => (blk_gr Qa.out d os).cell 0
  have kQa1 : ∀ d os, (Go.Sort.grow (redrawn w4 d) os).cell? ⟨w.heap.size, 1, none⟩ = some (.int .i64 (k : Int)) := fun d os => (blk_gr Qa.out d os).cell 1
  have kQa2 : ∀ d os, (Go.Sort.grow (redrawn w4 d) os).cell? ⟨w.heap.size, 2, none⟩ = some (.int .u64 a) := fun d os => (blk_gr Qa.out d os).cell 2
  have kQa3 : ∀ d os, (Go.Sort.grow (redrawn w4 d) os).cell? ⟨w.heap.size, 3, none⟩ = some (.int .u64 b) := fun d os => (blk_gr Qa.out d os).cell 3
  have kQa4 : ∀ d os, (Go.Sort.grow (redrawn w4 d) os).cell? ⟨w.heap.size, 4, none⟩ = some (.int .u64 c) := fun d os => (blk_gr Qa.out d os).cell 4
  have kQa5 : ∀ d os, (Go.Sort.grow (redrawn w4 d) os).cell? ⟨w.heap.size, 5, none⟩ = some (.string p) := fun d os => (blk_gr Qa.out d os).cell 5
  have kQb0 : ∀ d os, (Go.Sort.grow (redrawn w4 d) os).cell? ⟨w.heap.size + 1, 0, none⟩ = some (.int .u64 a') := fun d os => (blk_gr Qb.out d os).cell 0
  have kQb1 : ∀ d os, (Go.Sort.grow (redrawn w4 d) os).cell? ⟨w.heap.size + 1, 1, none⟩ = some (.int .u64 b') := fun d os => (blk_gr Qb.out d os).cell 1
  have kQb2 : ∀ d os, (Go.Sort.grow (redrawn w4 d) os).cell? ⟨w.heap.size + 1, 2, none⟩ = some (.int .u64 c') := fun d os => (blk_gr Qb.out d os).cell 2
  have kQb3 : ∀ d os, (Go.Sort.grow (redrawn w4 d) os).cell? ⟨w.heap.size + 1, 3, none⟩ = some (.string p') := fun d os => (blk_gr Qb.out d os).cell 3
  have kQb4 : ∀ d os, (Go.Sort.grow (redrawn w4 d) os).cell? ⟨w.heap.size + 1, 4, none⟩ = some (.string m') := fun d os => (blk_gr Qb.out d os).cell 4
  refine wp_region_quiet_below (by kernel_rfl) (by kernel_rfl) ?_
  repeat (go_big_quiet_step ((first | (go_at_call_of 35 (Value.bool false); exact C1.out _ _) | (go_at_call_of 35 (Value.int IntKind.i64 4); exact C3.out _ _) | (go_at_call 35; exact C2.out _ _) | (go_at_call 36; exact C4.out _ _) | fail)))
  refine wpQuiet_nil ?_
  intro _ hw'
  obtain ⟨⟨dq, osq⟩, hw''⟩ := hw'
  subst hw''
  go_wp2_with fail
  refine wp_region_gr (by kernel_rfl) (by kernel_rfl) ?_
  repeat (go_big_quiet_step ((first | (go_at_call_of 35 (Value.bool false); exact C1.out _ _) | (go_at_call_of 35 (Value.int IntKind.i64 4); exact C3.out _ _) | (go_at_call 35; exact C2.out _ _) | (go_at_call 36; exact C4.out _ _) | fail)))
  refine wpQuiet_nil ?_
  intro _ hw'
  obtain ⟨⟨dq2, osq2⟩, hw''⟩ := hw'
  subst hw''
  go_wp2_with fail
  go_ret
  exact ⟨rfl, bt B.out (below_regrown _ _ _)⟩

set_option maxHeartbeats 800000 in
set_option maxRecDepth 100000 in
theorem letin_bare_f (o k : Nat) (a b c : Int) (p : ByteArray) (a' b' c' : Int) (p' m' : ByteArray) (w : World) (hp : p.size ≤ maxLen) (hp' : p'.size ≤ maxLen) (hm' : m'.size ≤ maxLen) (hv : Vars w) (f0 : decide (p.size ≤ 2147483647) = true) (f1 : fitB p' m' = true) (s0 : p.size ≤ 2147483647) (s1 : p'.size ≤ 2147483647 ∧ m'.size ≤ 2147483647) (ho : o < 8) (hk : k ≤ 3) (f2 : goodT o k a b c p = true) (f3 : verOk ⟨0, 0, 0, p', m'⟩ = true) (he : p'.toList.isEmpty = true) (r1 r2 : Bool) (hrr : r1 = r2) (hr2v : r2 = false) (hr1 : ∀ g h, OpIs (opF o) g h a' b' c' p' m' a b c p ByteArray.empty (opS o) ByteArray.empty (k == 1) (decide (k < 3)) (k == 2) false r1) (hr2 : ∀ g h, OpIs (opF o) g h a' b' c' p' m' a b c p ByteArray.empty (opS o) ByteArray.empty (k == 1) (decide (k < 3)) (k == 2) true r2) (hr3 : ∀ g h, OpIs (opF 4) g h a' b' c' p' m' a' b' c' p' ByteArray.empty (opS 4) ByteArray.empty (3 == 1) (decide (3 < 3)) (3 == 2) true true) :
    Calls Tryd.prog 10 #[.agg #[.int .i64 (o : Int), .int .i64 (k : Int), .int .u64 a, .int .u64 b, .int .u64 c, .string p], .agg (scells a' b' c' p' m')] w fun e w' => e = .returned (.bool true) ∧ Below w.heap.size w w' := by
  subst hr2v
  subst hrr
  have B := hid (show Below w.heap.size w ((w.alloc (.cells #[.int .i64 (o : Int), .int .i64 (k : Int), .int .u64 a, .int .u64 b, .int .u64 c, .string p] 36)).alloc (.cells #[.int .u64 a', .int .u64 b', .int .u64 c', .string p', .string m'] 27)) by go_grown)
  have Z := hid (show w.heap.size + 2 ≤ ((w.alloc (.cells #[.int .i64 (o : Int), .int .i64 (k : Int), .int .u64 a, .int .u64 b, .int .u64 c, .string p] 36)).alloc (.cells #[.int .u64 a', .int .u64 b', .int .u64 c', .string p', .string m'] 27)).heap.size by simp only [World.size_alloc]; omega)
  obtain ⟨qa, qb⟩ := two_new w (#[.int .i64 (o : Int), .int .i64 (k : Int), .int .u64 a, .int .u64 b, .int .u64 c, .string p]) (#[.int .u64 a', .int .u64 b', .int .u64 c', .string p', .string m']) 36 27
  have Qa := hid qa
  have Qb := hid qb
  clear qa qb
  have HV := hid hv
  clear hv
  have HR1 := hid hr1
  clear hr1
  have HR2 := hid hr2
  clear hr2
  have HR3 := hid hr3
  clear hr3
  go_enter Tryd.func10, Tryd.ntmps10
  go_wp2_with fail
  go_at_call 25
  refine (fits13_any _ _ a b c p _ hp).mono ?_
  rintro e w1 ⟨rfl, hb⟩
  replace Qa := hid ((Qa.out).below hb)
  replace Qb := hid ((Qb.out).below hb)
  replace Z := hid (Nat.le_trans (Nat.le_trans Z.out (by first | exact Nat.le_refl _ | omega | (simp only [World.size_alloc, World.size_drew]; omega))) hb.size)
  replace B := hid (bt B.out hb)
  clear hb
  have xa0 : w1.cell? ⟨w.heap.size, 0, none⟩ = some (.int .i64 (o : Int)) := Qa.out.cell 0
  have xa1 : w1.cell? ⟨w.heap.size, 1, none⟩ = some (.int .i64 (k : Int)) := Qa.out.cell 1
  have xa2 : w1.cell? ⟨w.heap.size, 2, none⟩ = some (.int .u64 a) := Qa.out.cell 2
  have xa3 : w1.cell? ⟨w.heap.size, 3, none⟩ = some (.int .u64 b) := Qa.out.cell 3
  have xa4 : w1.cell? ⟨w.heap.size, 4, none⟩ = some (.int .u64 c) := Qa.out.cell 4
  have xa5 : w1.cell? ⟨w.heap.size, 5, none⟩ = some (.string p) := Qa.out.cell 5
  have xb0 : w1.cell? ⟨w.heap.size + 1, 0, none⟩ = some (.int .u64 a') := Qb.out.cell 0
  have xb1 : w1.cell? ⟨w.heap.size + 1, 1, none⟩ = some (.int .u64 b') := Qb.out.cell 1
  have xb2 : w1.cell? ⟨w.heap.size + 1, 2, none⟩ = some (.int .u64 c') := Qb.out.cell 2
  have xb3 : w1.cell? ⟨w.heap.size + 1, 3, none⟩ = some (.string p') := Qb.out.cell 3
  have xb4 : w1.cell? ⟨w.heap.size + 1, 4, none⟩ = some (.string m') := Qb.out.cell 4
  go_wp2_with fail
  go_at_call 17
  refine (fitB_any a' b' c' p' m' _ hp' hm').mono ?_
  rintro e w2 ⟨rfl, hb⟩
  replace Qa := hid ((Qa.out).below hb)
  replace Qb := hid ((Qb.out).below hb)
  replace Z := hid (Nat.le_trans (Nat.le_trans Z.out (by first | exact Nat.le_refl _ | omega | (simp only [World.size_alloc, World.size_drew]; omega))) hb.size)
  replace B := hid (bt B.out hb)
  clear hb
  have xa0 : w2.cell? ⟨w.heap.size, 0, none⟩ = some (.int .i64 (o : Int)) := Qa.out.cell 0
  have xa1 : w2.cell? ⟨w.heap.size, 1, none⟩ = some (.int .i64 (k : Int)) := Qa.out.cell 1
  have xa2 : w2.cell? ⟨w.heap.size, 2, none⟩ = some (.int .u64 a) := Qa.out.cell 2
  have xa3 : w2.cell? ⟨w.heap.size, 3, none⟩ = some (.int .u64 b) := Qa.out.cell 3
  have xa4 : w2.cell? ⟨w.heap.size, 4, none⟩ = some (.int .u64 c) := Qa.out.cell 4
  have xa5 : w2.cell? ⟨w.heap.size, 5, none⟩ = some (.string p) := Qa.out.cell 5
  have xb0 : w2.cell? ⟨w.heap.size + 1, 0, none⟩ = some (.int .u64 a') := Qb.out.cell 0
  have xb1 : w2.cell? ⟨w.heap.size + 1, 1, none⟩ = some (.int .u64 b') := Qb.out.cell 1
  have xb2 : w2.cell? ⟨w.heap.size + 1, 2, none⟩ = some (.int .u64 c') := Qb.out.cell 2
  have xb3 : w2.cell? ⟨w.heap.size + 1, 3, none⟩ = some (.string p') := Qb.out.cell 3
  have xb4 : w2.cell? ⟨w.heap.size + 1, 4, none⟩ = some (.string m') := Qb.out.cell 4
  go_wp2_with fail
  go_at_call 34
  refine (goodTerm_any _ _ a b c p _ s0).mono ?_
  rintro e w3 ⟨rfl, hb⟩
  replace Qa := hid ((Qa.out).below hb)
  replace Qb := hid ((Qb.out).below hb)
  replace Z := hid (Nat.le_trans (Nat.le_trans Z.out (by first | exact Nat.le_refl _ | omega | (simp only [World.size_alloc, World.size_drew]; omega))) hb.size)
  replace B := hid (bt B.out hb)
  clear hb
  have xa0 : w3.cell? ⟨w.heap.size, 0, none⟩ = some (.int .i64 (o : Int)) := Qa.out.cell 0
  have xa1 : w3.cell? ⟨w.heap.size, 1, none⟩ = some (.int .i64 (k : Int)) := Qa.out.cell 1
  have xa2 : w3.cell? ⟨w.heap.size, 2, none⟩ = some (.int .u64 a) := Qa.out.cell 2
  have xa3 : w3.cell? ⟨w.heap.size, 3, none⟩ = some (.int .u64 b) := Qa.out.cell 3
  have xa4 : w3.cell? ⟨w.heap.size, 4, none⟩ = some (.int .u64 c) := Qa.out.cell 4
  have xa5 : w3.cell? ⟨w.heap.size, 5, none⟩ = some (.string p) := Qa.out.cell 5
  have xb0 : w3.cell? ⟨w.heap.size + 1, 0, none⟩ = some (.int .u64 a') := Qb.out.cell 0
  have xb1 : w3.cell? ⟨w.heap.size + 1, 1, none⟩ = some (.int .u64 b') := Qb.out.cell 1
  have xb2 : w3.cell? ⟨w.heap.size + 1, 2, none⟩ = some (.int .u64 c') := Qb.out.cell 2
  have xb3 : w3.cell? ⟨w.heap.size + 1, 3, none⟩ = some (.string p') := Qb.out.cell 3
  have xb4 : w3.cell? ⟨w.heap.size + 1, 4, none⟩ = some (.string m') := Qb.out.cell 4
  go_wp2_with fail
  go_at_call 19
  refine (svGood1 a' b' c' p' m' s1.1 s1.2 _ _ _ (by simp)).mono ?_
  rintro e w4 ⟨rfl, hb⟩
  replace Qa := hid (((Qa.out.alloc _)).below hb)
  replace Qb := hid (((Qb.out.alloc _)).below hb)
  replace Z := hid (Nat.le_trans (Nat.le_trans Z.out (by first | exact Nat.le_refl _ | omega | (simp only [World.size_alloc, World.size_drew]; omega))) hb.size)
  replace B := hid (bt (B.out.alloc (by have := B.out.size; first | omega | (simp only [World.size_alloc]; omega)) _) hb)
  clear hb
  have xa0 : w4.cell? ⟨w.heap.size, 0, none⟩ = some (.int .i64 (o : Int)) := Qa.out.cell 0
  have xa1 : w4.cell? ⟨w.heap.size, 1, none⟩ = some (.int .i64 (k : Int)) := Qa.out.cell 1
  have xa2 : w4.cell? ⟨w.heap.size, 2, none⟩ = some (.int .u64 a) := Qa.out.cell 2
  have xa3 : w4.cell? ⟨w.heap.size, 3, none⟩ = some (.int .u64 b) := Qa.out.cell 3
  have xa4 : w4.cell? ⟨w.heap.size, 4, none⟩ = some (.int .u64 c) := Qa.out.cell 4
  have xa5 : w4.cell? ⟨w.heap.size, 5, none⟩ = some (.string p) := Qa.out.cell 5
  have xb0 : w4.cell? ⟨w.heap.size + 1, 0, none⟩ = some (.int .u64 a') := Qb.out.cell 0
  have xb1 : w4.cell? ⟨w.heap.size + 1, 1, none⟩ = some (.int .u64 b') := Qb.out.cell 1
  have xb2 : w4.cell? ⟨w.heap.size + 1, 2, none⟩ = some (.int .u64 c') := Qb.out.cell 2
  have xb3 : w4.cell? ⟨w.heap.size + 1, 3, none⟩ = some (.string p') := Qb.out.cell 3
  have xb4 : w4.cell? ⟨w.heap.size + 1, 4, none⟩ = some (.string m') := Qb.out.cell 4
  go_wp2_with fail
  have C1 := hid (fun d os => Calls.regrown_of (termHolds_at o k ho hk _ _ rfl rfl a' b' c' p' m' a b c p false _ (Go.Sort.grow (redrawn w4 d) os) (HV.out.below (bt B.out (below_regrown w4 d os))) HR1.out))
  have C3 := hid (fun d os => Calls.regrown_of (termHolds_at 4 3 (by omega) (by omega) _ _ rfl rfl a' b' c' p' m' a' b' c' p' true true (Go.Sort.grow (redrawn w4 d) os) (HV.out.below (bt B.out (below_regrown w4 d os))) HR3.out))
  have C2 := hid (fun d os => Calls.regrown_of (termHolds_at o k ho hk _ _ rfl rfl a' b' c' p' m' a b c p true _ (Go.Sort.grow (redrawn w4 d) os) (HV.out.below (bt B.out (below_regrown w4 d os))) HR2.out))
  have C4 := hid (fun d os => Calls.regrown_of (stTerm_3 4 a' b' c' p' m' (Go.Sort.grow (redrawn w4 d) os)))
  have kQa0 : ∀ d os, (Go.Sort.grow (redrawn w4 d) os).cell? ⟨w.heap.size, 0, none⟩ = some (.int .i64 (o : Int)) := fun d os => (blk_gr Qa.out d os).cell 0
  have kQa1 : ∀ d os, (Go.Sort.grow (redrawn w4 d) os).cell? ⟨w.heap.size, 1, none⟩ = some (.int .i64 (k : Int)) := fun d os => (blk_gr Qa.out d os).cell 1
  have kQa2 : ∀ d os, (Go.Sort.grow (redrawn w4 d) os).cell? ⟨w.heap.size, 2, none⟩ = some (.int .u64 a) := fun d os => (blk_gr Qa.out d os).cell 2
  have kQa3 : ∀ d os, (Go.Sort.grow (redrawn w4 d) os).cell? ⟨w.heap.size, 3, none⟩ = some (.int .u64 b) := fun d os => (blk_gr Qa.out d os).cell 3
  have kQa4 : ∀ d os, (Go.Sort.grow (redrawn w4 d) os).cell? ⟨w.heap.size, 4, none⟩ = some (.int .u64 c) := fun d os => (blk_gr Qa.out d os).cell 4
  have kQa5 : ∀ d os, (Go.Sort.grow (redrawn w4 d) os).cell? ⟨w.heap.size, 5, none⟩ = some (.string p) := fun d os => (blk_gr Qa.out d os).cell 5
  have kQb0 : ∀ d os, (Go.Sort.grow (redrawn w4 d) os).cell? ⟨w.heap.size + 1, 0, none⟩ = some (.int .u64 a') := fun d os => (blk_gr Qb.out d os).cell 0
  have kQb1 : ∀ d os, (Go.Sort.grow (redrawn w4 d) os).cell? ⟨w.heap.size + 1, 1, none⟩ = some (.int .u64 b') := fun d os => (blk_gr Qb.out d os).cell 1
  have kQb2 : ∀ d os, (Go.Sort.grow (redrawn w4 d) os).cell? ⟨w.heap.size + 1, 2, none⟩ = some (.int .u64 c') := fun d os => (blk_gr Qb.out d os).cell 2
  have kQb3 : ∀ d os, (Go.Sort.grow (redrawn w4 d) os).cell? ⟨w.heap.size + 1, 3, none⟩ = some (.string p') := fun d os => (blk_gr Qb.out d os).cell 3
  have kQb4 : ∀ d os, (Go.Sort.grow (redrawn w4 d) os).cell? ⟨w.heap.size + 1, 4, none⟩ = some (.string m') := fun d os => (blk_gr Qb.out d os).cell 4
  refine wp_region_quiet_below (by kernel_rfl) (by kernel_rfl) ?_
  repeat (go_big_quiet_step ((first | (go_at_call_of 35 (Value.bool false); exact C1.out _ _) | (go_at_call_of 35 (Value.int IntKind.i64 4); exact C3.out _ _) | (go_at_call 35; exact C2.out _ _) | (go_at_call 36; exact C4.out _ _) | fail)))
  refine wpQuiet_nil ?_
  intro _ hw'
  obtain ⟨⟨dq, osq⟩, hw''⟩ := hw'
  subst hw''
  go_wp2_with fail
  refine wp_region_gr (by kernel_rfl) (by kernel_rfl) ?_
  repeat (go_big_quiet_step ((first | (go_at_call_of 35 (Value.bool false); exact C1.out _ _) | (go_at_call_of 35 (Value.int IntKind.i64 4); exact C3.out _ _) | (go_at_call 35; exact C2.out _ _) | (go_at_call 36; exact C4.out _ _) | fail)))
  refine wpQuiet_nil ?_
  intro _ hw'
  obtain ⟨⟨dq2, osq2⟩, hw''⟩ := hw'
  subst hw''
  go_wp2_with fail
  go_ret
  exact ⟨rfl, bt B.out (below_regrown _ _ _)⟩

end Go.Proofs.YtmlbjcdildaldaaDoor

set_option linter.unusedVariables false
set_option linter.unusedSimpArgs false
namespace Go.Proofs.YtmlbjcdildaldaaDoor
open Go.RowKit

theorem goodT_parts {o k a b c : Int} {p : ByteArray} (h : goodT o k a b c p = true) : (0 ≤ o ∧ o < 8) ∧ (0 ≤ k ∧ k ≤ 3) ∧ (k < 3 → c = 0 ∧ p.toList.isEmpty = true) ∧ (k < 2 → b = 0) ∧ (k < 1 → a = 0) ∧ preOk p = true ∧ gt1 o k a b c = false := by
  unfold goodT at h
  cases h1 : gt1 o k a b c
  · rw [h1] at h
    cases h2 : gt2 o k
    · rw [h2] at h
      cases h3 : gt3 k a b c p.toList.isEmpty
      · rw [h3] at h
        simp only [Bool.false_eq_true, if_false] at h
        simp only [gt2, Bool.or_eq_false_iff, decide_eq_false_iff_not] at h2
        simp only [gt3, Bool.or_eq_false_iff, Bool.and_eq_false_iff, decide_eq_false_iff_not, Bool.not_eq_false', beq_iff_eq] at h3
        obtain ⟨⟨⟨h21, h22⟩, h23⟩, h24⟩ := h2
        obtain ⟨⟨h31, h32⟩, h33⟩ := h3
        refine ⟨⟨by omega, by omega⟩, ⟨by omega, by omega⟩, fun hk => ?_, fun hk => ?_, fun hk => ?_, h, rfl⟩
        · rcases h31 with h31 | h31
          · exact absurd hk h31
          · exact ⟨h31.1, h31.2⟩
        · rcases h32 with h32 | h32
          · exact absurd hk h32
          · exact h32
        · rcases h33 with h33 | h33
          · exact absurd hk h33
          · exact h33
      · rw [h3] at h; simp at h
    · rw [h2] at h; simp at h
  · rw [h1] at h; simp at h
theorem opR_barred (o : Nat) (ho : o < 8) (n np a b c a' b' c' : Int) (k : Nat) (pe : Bool) : opR o true n np a b c a' b' c' k pe = false := by
  obtain rfl | rfl | rfl | rfl | rfl | rfl | rfl | rfl : o = 0 ∨ o = 1 ∨ o = 2 ∨ o = 3 ∨ o = 4 ∨ o = 5 ∨ o = 6 ∨ o = 7 := by omega
  all_goals simp [opR, opEq, opNot, opAbove, opBelow, opLeast, opMost, opTilde, opCaret]
theorem firstL_self (x : List (List UInt8)) (n : Nat) : firstL x x n = 0 := by
  induction n with
  | zero => rfl
  | succ n ih => simp [firstL, ih, cpp_self]
theorem preCmp_self (p : List UInt8) : preCmp p p = 0 := by
  unfold preCmp
  by_cases h : p = []
  · simp [h]
  · rw [if_neg h, if_neg h]; unfold preC; exact firstL_self _ _
theorem own_least (a b c : Int) (p : ByteArray) : opV 4 a b c p a b c p 3 true = true := by
  unfold opV opR opLeast
  have e : preBar p true = false := by simp [preBar]
  rw [e, num3_self]
  simp [cmpV, preCmp_self]
theorem letin_full (o : Nat) (ho : o < 8) (a b c : Int) (p : ByteArray) (a' b' c' : Int) (p' : ByteArray) (k : Nat) (h : p.toList.isEmpty = false) : opV o a b c p a' b' c' p' k false = false := by
  unfold opV
  have e : preBar p false = true := by simp [preBar, h]
  rw [e]
  exact opR_barred o ho _ _ _ _ _ _ _ _ _ _
theorem letin_bare (o : Nat) (a b c : Int) (p : ByteArray) (a' b' c' : Int) (p' : ByteArray) (k : Nat) (h : p.toList.isEmpty = true) : opV o a b c p a' b' c' p' k false = opV o a b c p a' b' c' p' k true := by
  unfold opV
  have e : preBar p false = false := by simp [preBar, h]
  have e2 : preBar p true = false := by simp [preBar]
  rw [e, e2]

theorem fnSemverTermLetIn_walk (o k : Int) (a b c : Int) (p : ByteArray) (a' b' c' : Int) (p' m' : ByteArray) (w : World) (w0 : (Lit.int .i64 o).wf = true) (w1 : (Lit.int .i64 k).wf = true) (wa : (Lit.int .u64 a).wf = true) (wb : (Lit.int .u64 b).wf = true) (wc : (Lit.int .u64 c).wf = true) (hp : p.size ≤ maxLen) (wa' : (Lit.int .u64 a').wf = true) (wb' : (Lit.int .u64 b').wf = true) (wc' : (Lit.int .u64 c').wf = true) (hp' : p'.size ≤ maxLen) (hm' : m'.size ≤ maxLen) (hv : Vars w) :
    Calls Tryd.prog 10 #[.agg #[.int .i64 o, .int .i64 k, .int .u64 a, .int .u64 b, .int .u64 c, .string p], .agg (scells a' b' c' p' m')] w fun e w' => e = .returned (.bool true) ∧ Below w.heap.size w w' := by
  have ra := wf_u64 wa
  have rb := wf_u64 wb
  have rc := wf_u64 wc
  have ra' := wf_u64 wa'
  have rb' := wf_u64 wb'
  have rc' := wf_u64 wc'
  cases f0 : decide (p.size ≤ 2147483647)
  · exact letin_unfit1 o k a b c p a' b' c' p' m' w hp hp' hm' hv f0
  have s0 : p.size ≤ 2147483647 := of_decide_eq_true f0
  cases f1 : fitB p' m'
  · exact letin_unfit2 o k a b c p a' b' c' p' m' w hp hp' hm' hv f0 f1
  have s1 := fitB_size f1
  cases f2 : goodT o k a b c p
  · exact letin_ungood o k a b c p a' b' c' p' m' w hp hp' hm' hv f0 f1 s0 s1 f2
  cases f3 : verOk ⟨0, 0, 0, p', m'⟩
  · exact letin_bad o k a b c p a' b' c' p' m' w hp hp' hm' hv f0 f1 s0 s1 f2 f3
  have sp := (verOk_size f3).1
  obtain ⟨⟨o0, o8⟩, ⟨k0, k3⟩, g3, g2, g1, gp, _⟩ := goodT_parts f2
  obtain ⟨on, rfl⟩ := Int.eq_ofNat_of_zero_le o0
  obtain ⟨kn, rfl⟩ := Int.eq_ofNat_of_zero_le k0
  have ho : on < 8 := by omega
  have hk : kn ≤ 3 := by omega
  have op : ∀ pre, ∀ g h, OpIs (opF on) g h a' b' c' p' m' a b c p ByteArray.empty (opS on) ByteArray.empty (kn == 1) (decide (kn < 3)) (kn == 2) pre (opV on a' b' c' p' a b c p kn pre) :=
    fun pre g h => opIs_any on ho kn a' b' c' p' m' a b c p ByteArray.empty (opS on) ByteArray.empty pre s1.1 s0 (fun e => (g3 (by omega)).2) ra'.1 rb'.1 ra.1 rb.1 g h
  have own : ∀ g h, OpIs (opF 4) g h a' b' c' p' m' a' b' c' p' ByteArray.empty (opS 4) ByteArray.empty (3 == 1) (decide (3 < 3)) (3 == 2) true true :=
    fun g h => by
      have q := opIs_any 4 (by omega) 3 a' b' c' p' m' a' b' c' p' ByteArray.empty (opS 4) ByteArray.empty true s1.1 s1.1 (fun e => by omega) ra'.1 rb'.1 ra'.1 rb'.1 g h
      rw [own_least] at q
      exact q
  cases he : p'.toList.isEmpty
  · have l := letin_full on ho a' b' c' p' a b c p kn he
    cases h2 : opV on a' b' c' p' a b c p kn true
    · exact letin_full_f on kn a b c p a' b' c' p' m' w hp hp' hm' hv f0 f1 s0 s1 ho hk f2 f3 he _ _ l h2 (op false) (op true) own
    · exact letin_full_t on kn a b c p a' b' c' p' m' w hp hp' hm' hv f0 f1 s0 s1 ho hk f2 f3 he _ _ l h2 (op false) (op true) own
  · have l := letin_bare on a' b' c' p' a b c p kn he
    cases h2 : opV on a' b' c' p' a b c p kn true
    · exact letin_bare_f on kn a b c p a' b' c' p' m' w hp hp' hm' hv f0 f1 s0 s1 ho hk f2 f3 he _ _ l h2 (op false) (op true) own
    · exact letin_bare_t on kn a b c p a' b' c' p' m' w hp hp' hm' hv f0 f1 s0 s1 ho hk f2 f3 he _ _ l h2 (op false) (op true) own

end Go.Proofs.YtmlbjcdildaldaaDoor
