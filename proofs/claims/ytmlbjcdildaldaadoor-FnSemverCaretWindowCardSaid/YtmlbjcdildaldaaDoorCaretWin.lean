/- The law FnSemverCaretWindow, walked. The law FnSemverCaretWindow: the plain law, and the ways joined. -/
import Derived.Test.YtmlbjcdildaldaaDoorAsked
import Derived.Test.YtmlbjcdildaldaaDoorLetIn
set_option linter.unusedVariables false
set_option linter.unusedSimpArgs false
namespace Go.Proofs.YtmlbjcdildaldaaDoor
open Go.RowKit

set_option maxHeartbeats 800000 in
set_option maxRecDepth 100000 in
theorem win_unfit1 (o k : Int) (a b c : Int) (p : ByteArray) (a' b' c' : Int) (p' m' : ByteArray) (w : World) (hp : p.size ≤ maxLen) (hp' : p'.size ≤ maxLen) (hm' : m'.size ≤ maxLen) (hv : Vars w) (f0 : decide (p.size ≤ 2147483647) = false) :
    Calls Tryd.prog 8 #[.agg #[.int .i64 o, .int .i64 k, .int .u64 a, .int .u64 b, .int .u64 c, .string p], .agg (scells a' b' c' p' m')] w fun e w' => e = .returned (.bool true) ∧ Below w.heap.size w w' := by
  have B := hid (show Below w.heap.size w ((w.alloc (.cells #[.int .i64 o, .int .i64 k, .int .u64 a, .int .u64 b, .int .u64 c, .string p] 36)).alloc (.cells #[.int .u64 a', .int .u64 b', .int .u64 c', .string p', .string m'] 27)) by go_grown)
  have Z := hid (show w.heap.size + 2 ≤ ((w.alloc (.cells #[.int .i64 o, .int .i64 k, .int .u64 a, .int .u64 b, .int .u64 c, .string p] 36)).alloc (.cells #[.int .u64 a', .int .u64 b', .int .u64 c', .string p', .string m'] 27)).heap.size by simp only [World.size_alloc]; omega)
  obtain ⟨qa, qb⟩ := two_new w (#[.int .i64 o, .int .i64 k, .int .u64 a, .int .u64 b, .int .u64 c, .string p]) (#[.int .u64 a', .int .u64 b', .int .u64 c', .string p', .string m']) 36 27
  have Qa := hid qa
  have Qb := hid qb
  clear qa qb
  have HV := hid hv
  clear hv
  go_enter Tryd.func8, Tryd.ntmps8
  go_wp2_with fail
  go_at_call 25
  refine (fits13_any _ _ a b c p _ hp).mono ?_
  rintro e w1 ⟨rfl, hb⟩
  replace Qa := hid ((Qa.out).below hb)
  replace Qb := hid ((Qb.out).below hb)
  replace Z := hid (Nat.le_trans (Nat.le_trans Z.out (by first | exact Nat.le_refl _ | omega | (simp only [World.size_alloc, World.size_drew]; omega))) hb.size)
  replace B := hid (bt B.out hb)
  clear hb
  have xa0 : w1.cell? ⟨w.heap.size, 0, none⟩ = some (.int .i64 o) := Qa.out.cell 0
  have xa1 : w1.cell? ⟨w.heap.size, 1, none⟩ = some (.int .i64 k) := Qa.out.cell 1
  have xa2 : w1.cell? ⟨w.heap.size, 2, none⟩ = some (.int .u64 a) := Qa.out.cell 2
  have xa3 : w1.cell? ⟨w.heap.size, 3, none⟩ = some (.int .u64 b) := Qa.out.cell 3
  have xa4 : w1.cell? ⟨w.heap.size, 4, none⟩ = some (.int .u64 c) := Qa.out.cell 4
  have xa5 : w1.cell? ⟨w.heap.size, 5, none⟩ = some (.string p) := Qa.out.cell 5
  have xb0 : w1.cell? ⟨w.heap.size + 1, 0, none⟩ = some (.int .u64 a') := Qb.out.cell 0
  have xb1 : w1.cell? ⟨w.heap.size + 1, 1, none⟩ = some (.int .u64 b') := Qb.out.cell 1
  have xb2 : w1.cell? ⟨w.heap.size + 1, 2, none⟩ = some (.int .u64 c') := Qb.out.cell 2
  have xb3 : w1.cell? ⟨w.heap.size + 1, 3, none⟩ = some (.string p') := Qb.out.cell 3
  have xb4 : w1.cell? ⟨w.heap.size + 1, 4, none⟩ = some (.string m') := Qb.out.cell 4
  go_wp2_with fail
  go_ret
  exact ⟨rfl, B.out⟩

set_option maxHeartbeats 800000 in
set_option maxRecDepth 100000 in
theorem win_unfit2 (o k : Int) (a b c : Int) (p : ByteArray) (a' b' c' : Int) (p' m' : ByteArray) (w : World) (hp : p.size ≤ maxLen) (hp' : p'.size ≤ maxLen) (hm' : m'.size ≤ maxLen) (hv : Vars w) (f0 : decide (p.size ≤ 2147483647) = true) (f1 : fitB p' m' = false) :
    Calls Tryd.prog 8 #[.agg #[.int .i64 o, .int .i64 k, .int .u64 a, .int .u64 b, .int .u64 c, .string p], .agg (scells a' b' c' p' m')] w fun e w' => e = .returned (.bool true) ∧ Below w.heap.size w w' := by
  have B := hid (show Below w.heap.size w ((w.alloc (.cells #[.int .i64 o, .int .i64 k, .int .u64 a, .int .u64 b, .int .u64 c, .string p] 36)).alloc (.cells #[.int .u64 a', .int .u64 b', .int .u64 c', .string p', .string m'] 27)) by go_grown)
  have Z := hid (show w.heap.size + 2 ≤ ((w.alloc (.cells #[.int .i64 o, .int .i64 k, .int .u64 a, .int .u64 b, .int .u64 c, .string p] 36)).alloc (.cells #[.int .u64 a', .int .u64 b', .int .u64 c', .string p', .string m'] 27)).heap.size by simp only [World.size_alloc]; omega)
  obtain ⟨qa, qb⟩ := two_new w (#[.int .i64 o, .int .i64 k, .int .u64 a, .int .u64 b, .int .u64 c, .string p]) (#[.int .u64 a', .int .u64 b', .int .u64 c', .string p', .string m']) 36 27
  have Qa := hid qa
  have Qb := hid qb
  clear qa qb
  have HV := hid hv
  clear hv
  go_enter Tryd.func8, Tryd.ntmps8
  go_wp2_with fail
  go_at_call 25
  refine (fits13_any _ _ a b c p _ hp).mono ?_
  rintro e w1 ⟨rfl, hb⟩
  replace Qa := hid ((Qa.out).below hb)
  replace Qb := hid ((Qb.out).below hb)
  replace Z := hid (Nat.le_trans (Nat.le_trans Z.out (by first | exact Nat.le_refl _ | omega | (simp only [World.size_alloc, World.size_drew]; omega))) hb.size)
  replace B := hid (bt B.out hb)
  clear hb
  have xa0 : w1.cell? ⟨w.heap.size, 0, none⟩ = some (.int .i64 o) := Qa.out.cell 0
  have xa1 : w1.cell? ⟨w.heap.size, 1, none⟩ = some (.int .i64 k) := Qa.out.cell 1
  have xa2 : w1.cell? ⟨w.heap.size, 2, none⟩ = some (.int .u64 a) := Qa.out.cell 2
  have xa3 : w1.cell? ⟨w.heap.size, 3, none⟩ = some (.int .u64 b) := Qa.out.cell 3
  have xa4 : w1.cell? ⟨w.heap.size, 4, none⟩ = some (.int .u64 c) := Qa.out.cell 4
  have xa5 : w1.cell? ⟨w.heap.size, 5, none⟩ = some (.string p) := Qa.out.cell 5
  have xb0 : w1.cell? ⟨w.heap.size + 1, 0, none⟩ = some (.int .u64 a') := Qb.out.cell 0
  have xb1 : w1.cell? ⟨w.heap.size + 1, 1, none⟩ = some (.int .u64 b') := Qb.out.cell 1
  have xb2 : w1.cell? ⟨w.heap.size + 1, 2, none⟩ = some (.int .u64 c') := Qb.out.cell 2
  have xb3 : w1.cell? ⟨w.heap.size + 1, 3, none⟩ = some (.string p') := Qb.out.cell 3
  have xb4 : w1.cell? ⟨w.heap.size + 1, 4, none⟩ = some (.string m') := Qb.out.cell 4
  go_wp2_with fail
  go_at_call 17
  refine (fitB_any a' b' c' p' m' _ hp' hm').mono ?_
  rintro e w2 ⟨rfl, hb⟩
  replace Qa := hid ((Qa.out).below hb)
  replace Qb := hid ((Qb.out).below hb)
  replace Z := hid (Nat.le_trans (Nat.le_trans Z.out (by first | exact Nat.le_refl _ | omega | (simp only [World.size_alloc, World.size_drew]; omega))) hb.size)
  replace B := hid (bt B.out hb)
  clear hb
  have xa0 : w2.cell? ⟨w.heap.size, 0, none⟩ = some (.int .i64 o) := Qa.out.cell 0
  have xa1 : w2.cell? ⟨w.heap.size, 1, none⟩ = some (.int .i64 k) := Qa.out.cell 1
  have xa2 : w2.cell? ⟨w.heap.size, 2, none⟩ = some (.int .u64 a) := Qa.out.cell 2
  have xa3 : w2.cell? ⟨w.heap.size, 3, none⟩ = some (.int .u64 b) := Qa.out.cell 3
  have xa4 : w2.cell? ⟨w.heap.size, 4, none⟩ = some (.int .u64 c) := Qa.out.cell 4
  have xa5 : w2.cell? ⟨w.heap.size, 5, none⟩ = some (.string p) := Qa.out.cell 5
  have xb0 : w2.cell? ⟨w.heap.size + 1, 0, none⟩ = some (.int .u64 a') := Qb.out.cell 0
  have xb1 : w2.cell? ⟨w.heap.size + 1, 1, none⟩ = some (.int .u64 b') := Qb.out.cell 1
  have xb2 : w2.cell? ⟨w.heap.size + 1, 2, none⟩ = some (.int .u64 c') := Qb.out.cell 2
  have xb3 : w2.cell? ⟨w.heap.size + 1, 3, none⟩ = some (.string p') := Qb.out.cell 3
  have xb4 : w2.cell? ⟨w.heap.size + 1, 4, none⟩ = some (.string m') := Qb.out.cell 4
  go_wp2_with fail
  go_ret
  exact ⟨rfl, B.out⟩

set_option maxHeartbeats 800000 in
set_option maxRecDepth 100000 in
theorem win_unasked (o k : Int) (a b c : Int) (p : ByteArray) (a' b' c' : Int) (p' m' : ByteArray) (w : World) (hp : p.size ≤ maxLen) (hp' : p'.size ≤ maxLen) (hm' : m'.size ≤ maxLen) (hv : Vars w) (f0 : decide (p.size ≤ 2147483647) = true) (f1 : fitB p' m' = true) (s0 : p.size ≤ 2147483647) (s1 : p'.size ≤ 2147483647 ∧ m'.size ≤ 2147483647) (f2 : (goodT 7 k a b c p && verOk ⟨0, 0, 0, p', m'⟩) = false) :
    Calls Tryd.prog 8 #[.agg #[.int .i64 o, .int .i64 k, .int .u64 a, .int .u64 b, .int .u64 c, .string p], .agg (scells a' b' c' p' m')] w fun e w' => e = .returned (.bool true) ∧ Below w.heap.size w w' := by
  have B := hid (show Below w.heap.size w ((w.alloc (.cells #[.int .i64 o, .int .i64 k, .int .u64 a, .int .u64 b, .int .u64 c, .string p] 36)).alloc (.cells #[.int .u64 a', .int .u64 b', .int .u64 c', .string p', .string m'] 27)) by go_grown)
  have Z := hid (show w.heap.size + 2 ≤ ((w.alloc (.cells #[.int .i64 o, .int .i64 k, .int .u64 a, .int .u64 b, .int .u64 c, .string p] 36)).alloc (.cells #[.int .u64 a', .int .u64 b', .int .u64 c', .string p', .string m'] 27)).heap.size by simp only [World.size_alloc]; omega)
  obtain ⟨qa, qb⟩ := two_new w (#[.int .i64 o, .int .i64 k, .int .u64 a, .int .u64 b, .int .u64 c, .string p]) (#[.int .u64 a', .int .u64 b', .int .u64 c', .string p', .string m']) 36 27
  have Qa := hid qa
  have Qb := hid qb
  clear qa qb
  have HV := hid hv
  clear hv
  go_enter Tryd.func8, Tryd.ntmps8
  go_wp2_with fail
  go_at_call 25
  refine (fits13_any _ _ a b c p _ hp).mono ?_
  rintro e w1 ⟨rfl, hb⟩
  replace Qa := hid ((Qa.out).below hb)
  replace Qb := hid ((Qb.out).below hb)
  replace Z := hid (Nat.le_trans (Nat.le_trans Z.out (by first | exact Nat.le_refl _ | omega | (simp only [World.size_alloc, World.size_drew]; omega))) hb.size)
  replace B := hid (bt B.out hb)
  clear hb
  have xa0 : w1.cell? ⟨w.heap.size, 0, none⟩ = some (.int .i64 o) := Qa.out.cell 0
  have xa1 : w1.cell? ⟨w.heap.size, 1, none⟩ = some (.int .i64 k) := Qa.out.cell 1
  have xa2 : w1.cell? ⟨w.heap.size, 2, none⟩ = some (.int .u64 a) := Qa.out.cell 2
  have xa3 : w1.cell? ⟨w.heap.size, 3, none⟩ = some (.int .u64 b) := Qa.out.cell 3
  have xa4 : w1.cell? ⟨w.heap.size, 4, none⟩ = some (.int .u64 c) := Qa.out.cell 4
  have xa5 : w1.cell? ⟨w.heap.size, 5, none⟩ = some (.string p) := Qa.out.cell 5
  have xb0 : w1.cell? ⟨w.heap.size + 1, 0, none⟩ = some (.int .u64 a') := Qb.out.cell 0
  have xb1 : w1.cell? ⟨w.heap.size + 1, 1, none⟩ = some (.int .u64 b') := Qb.out.cell 1
  have xb2 : w1.cell? ⟨w.heap.size + 1, 2, none⟩ = some (.int .u64 c') := Qb.out.cell 2
  have xb3 : w1.cell? ⟨w.heap.size + 1, 3, none⟩ = some (.string p') := Qb.out.cell 3
  have xb4 : w1.cell? ⟨w.heap.size + 1, 4, none⟩ = some (.string m') := Qb.out.cell 4
  go_wp2_with fail
  go_at_call 17
  refine (fitB_any a' b' c' p' m' _ hp' hm').mono ?_
  rintro e w2 ⟨rfl, hb⟩
  replace Qa := hid ((Qa.out).below hb)
  replace Qb := hid ((Qb.out).below hb)
  replace Z := hid (Nat.le_trans (Nat.le_trans Z.out (by first | exact Nat.le_refl _ | omega | (simp only [World.size_alloc, World.size_drew]; omega))) hb.size)
  replace B := hid (bt B.out hb)
  clear hb
  have xa0 : w2.cell? ⟨w.heap.size, 0, none⟩ = some (.int .i64 o) := Qa.out.cell 0
  have xa1 : w2.cell? ⟨w.heap.size, 1, none⟩ = some (.int .i64 k) := Qa.out.cell 1
  have xa2 : w2.cell? ⟨w.heap.size, 2, none⟩ = some (.int .u64 a) := Qa.out.cell 2
  have xa3 : w2.cell? ⟨w.heap.size, 3, none⟩ = some (.int .u64 b) := Qa.out.cell 3
  have xa4 : w2.cell? ⟨w.heap.size, 4, none⟩ = some (.int .u64 c) := Qa.out.cell 4
  have xa5 : w2.cell? ⟨w.heap.size, 5, none⟩ = some (.string p) := Qa.out.cell 5
  have xb0 : w2.cell? ⟨w.heap.size + 1, 0, none⟩ = some (.int .u64 a') := Qb.out.cell 0
  have xb1 : w2.cell? ⟨w.heap.size + 1, 1, none⟩ = some (.int .u64 b') := Qb.out.cell 1
  have xb2 : w2.cell? ⟨w.heap.size + 1, 2, none⟩ = some (.int .u64 c') := Qb.out.cell 2
  have xb3 : w2.cell? ⟨w.heap.size + 1, 3, none⟩ = some (.string p') := Qb.out.cell 3
  have xb4 : w2.cell? ⟨w.heap.size + 1, 4, none⟩ = some (.string m') := Qb.out.cell 4
  go_wp2_with fail
  go_at_call 26
  refine (asked_7 o k a b c p a' b' c' p' m' _ s0 s1).mono ?_
  rintro e w3 ⟨rfl, hb⟩
  replace Qa := hid ((Qa.out).below hb)
  replace Qb := hid ((Qb.out).below hb)
  replace Z := hid (Nat.le_trans (Nat.le_trans Z.out (by first | exact Nat.le_refl _ | omega | (simp only [World.size_alloc, World.size_drew]; omega))) hb.size)
  replace B := hid (bt B.out hb)
  clear hb
  have xa0 : w3.cell? ⟨w.heap.size, 0, none⟩ = some (.int .i64 o) := Qa.out.cell 0
  have xa1 : w3.cell? ⟨w.heap.size, 1, none⟩ = some (.int .i64 k) := Qa.out.cell 1
  have xa2 : w3.cell? ⟨w.heap.size, 2, none⟩ = some (.int .u64 a) := Qa.out.cell 2
  have xa3 : w3.cell? ⟨w.heap.size, 3, none⟩ = some (.int .u64 b) := Qa.out.cell 3
  have xa4 : w3.cell? ⟨w.heap.size, 4, none⟩ = some (.int .u64 c) := Qa.out.cell 4
  have xa5 : w3.cell? ⟨w.heap.size, 5, none⟩ = some (.string p) := Qa.out.cell 5
  have xb0 : w3.cell? ⟨w.heap.size + 1, 0, none⟩ = some (.int .u64 a') := Qb.out.cell 0
  have xb1 : w3.cell? ⟨w.heap.size + 1, 1, none⟩ = some (.int .u64 b') := Qb.out.cell 1
  have xb2 : w3.cell? ⟨w.heap.size + 1, 2, none⟩ = some (.int .u64 c') := Qb.out.cell 2
  have xb3 : w3.cell? ⟨w.heap.size + 1, 3, none⟩ = some (.string p') := Qb.out.cell 3
  have xb4 : w3.cell? ⟨w.heap.size + 1, 4, none⟩ = some (.string m') := Qb.out.cell 4
  go_wp2_with fail
  go_ret
  exact ⟨rfl, B.out⟩

set_option maxHeartbeats 800000 in
set_option maxRecDepth 100000 in
theorem win_few (o k : Int) (a b c : Int) (p : ByteArray) (a' b' c' : Int) (p' m' : ByteArray) (w : World) (hp : p.size ≤ maxLen) (hp' : p'.size ≤ maxLen) (hm' : m'.size ≤ maxLen) (hv : Vars w) (f0 : decide (p.size ≤ 2147483647) = true) (f1 : fitB p' m' = true) (s0 : p.size ≤ 2147483647) (s1 : p'.size ≤ 2147483647 ∧ m'.size ≤ 2147483647) (f2 : (goodT 7 k a b c p && verOk ⟨0, 0, 0, p', m'⟩) = true) (hk : (k == 3) = false) :
    Calls Tryd.prog 8 #[.agg #[.int .i64 o, .int .i64 k, .int .u64 a, .int .u64 b, .int .u64 c, .string p], .agg (scells a' b' c' p' m')] w fun e w' => e = .returned (.bool true) ∧ Below w.heap.size w w' := by
  have hk_n : (k != 3) = true := by simp [bne, hk]
  have B := hid (show Below w.heap.size w ((w.alloc (.cells #[.int .i64 o, .int .i64 k, .int .u64 a, .int .u64 b, .int .u64 c, .string p] 36)).alloc (.cells #[.int .u64 a', .int .u64 b', .int .u64 c', .string p', .string m'] 27)) by go_grown)
  have Z := hid (show w.heap.size + 2 ≤ ((w.alloc (.cells #[.int .i64 o, .int .i64 k, .int .u64 a, .int .u64 b, .int .u64 c, .string p] 36)).alloc (.cells #[.int .u64 a', .int .u64 b', .int .u64 c', .string p', .string m'] 27)).heap.size by simp only [World.size_alloc]; omega)
  obtain ⟨qa, qb⟩ := two_new w (#[.int .i64 o, .int .i64 k, .int .u64 a, .int .u64 b, .int .u64 c, .string p]) (#[.int .u64 a', .int .u64 b', .int .u64 c', .string p', .string m']) 36 27
  have Qa := hid qa
  have Qb := hid qb
  clear qa qb
  have HV := hid hv
  clear hv
  go_enter Tryd.func8, Tryd.ntmps8
  go_wp2_with fail
  go_at_call 25
  refine (fits13_any _ _ a b c p _ hp).mono ?_
  rintro e w1 ⟨rfl, hb⟩
  replace Qa := hid ((Qa.out).below hb)
  replace Qb := hid ((Qb.out).below hb)
  replace Z := hid (Nat.le_trans (Nat.le_trans Z.out (by first | exact Nat.le_refl _ | omega | (simp only [World.size_alloc, World.size_drew]; omega))) hb.size)
  replace B := hid (bt B.out hb)
  clear hb
  have xa0 : w1.cell? ⟨w.heap.size, 0, none⟩ = some (.int .i64 o) := Qa.out.cell 0
  have xa1 : w1.cell? ⟨w.heap.size, 1, none⟩ = some (.int .i64 k) := Qa.out.cell 1
  have xa2 : w1.cell? ⟨w.heap.size, 2, none⟩ = some (.int .u64 a) := Qa.out.cell 2
  have xa3 : w1.cell? ⟨w.heap.size, 3, none⟩ = some (.int .u64 b) := Qa.out.cell 3
  have xa4 : w1.cell? ⟨w.heap.size, 4, none⟩ = some (.int .u64 c) := Qa.out.cell 4
  have xa5 : w1.cell? ⟨w.heap.size, 5, none⟩ = some (.string p) := Qa.out.cell 5
  have xb0 : w1.cell? ⟨w.heap.size + 1, 0, none⟩ = some (.int .u64 a') := Qb.out.cell 0
  have xb1 : w1.cell? ⟨w.heap.size + 1, 1, none⟩ = some (.int .u64 b') := Qb.out.cell 1
  have xb2 : w1.cell? ⟨w.heap.size + 1, 2, none⟩ = some (.int .u64 c') := Qb.out.cell 2
  have xb3 : w1.cell? ⟨w.heap.size + 1, 3, none⟩ = some (.string p') := Qb.out.cell 3
  have xb4 : w1.cell? ⟨w.heap.size + 1, 4, none⟩ = some (.string m') := Qb.out.cell 4
  go_wp2_with fail
  go_at_call 17
  refine (fitB_any a' b' c' p' m' _ hp' hm').mono ?_
  rintro e w2 ⟨rfl, hb⟩
  replace Qa := hid ((Qa.out).below hb)
  replace Qb := hid ((Qb.out).below hb)
  replace Z := hid (Nat.le_trans (Nat.le_trans Z.out (by first | exact Nat.le_refl _ | omega | (simp only [World.size_alloc, World.size_drew]; omega))) hb.size)
  replace B := hid (bt B.out hb)
  clear hb
  have xa0 : w2.cell? ⟨w.heap.size, 0, none⟩ = some (.int .i64 o) := Qa.out.cell 0
  have xa1 : w2.cell? ⟨w.heap.size, 1, none⟩ = some (.int .i64 k) := Qa.out.cell 1
  have xa2 : w2.cell? ⟨w.heap.size, 2, none⟩ = some (.int .u64 a) := Qa.out.cell 2
  have xa3 : w2.cell? ⟨w.heap.size, 3, none⟩ = some (.int .u64 b) := Qa.out.cell 3
  have xa4 : w2.cell? ⟨w.heap.size, 4, none⟩ = some (.int .u64 c) := Qa.out.cell 4
  have xa5 : w2.cell? ⟨w.heap.size, 5, none⟩ = some (.string p) := Qa.out.cell 5
  have xb0 : w2.cell? ⟨w.heap.size + 1, 0, none⟩ = some (.int .u64 a') := Qb.out.cell 0
  have xb1 : w2.cell? ⟨w.heap.size + 1, 1, none⟩ = some (.int .u64 b') := Qb.out.cell 1
  have xb2 : w2.cell? ⟨w.heap.size + 1, 2, none⟩ = some (.int .u64 c') := Qb.out.cell 2
  have xb3 : w2.cell? ⟨w.heap.size + 1, 3, none⟩ = some (.string p') := Qb.out.cell 3
  have xb4 : w2.cell? ⟨w.heap.size + 1, 4, none⟩ = some (.string m') := Qb.out.cell 4
  go_wp2_with fail
  go_at_call 26
  refine (asked_7 o k a b c p a' b' c' p' m' _ s0 s1).mono ?_
  rintro e w3 ⟨rfl, hb⟩
  replace Qa := hid ((Qa.out).below hb)
  replace Qb := hid ((Qb.out).below hb)
  replace Z := hid (Nat.le_trans (Nat.le_trans Z.out (by first | exact Nat.le_refl _ | omega | (simp only [World.size_alloc, World.size_drew]; omega))) hb.size)
  replace B := hid (bt B.out hb)
  clear hb
  have xa0 : w3.cell? ⟨w.heap.size, 0, none⟩ = some (.int .i64 o) := Qa.out.cell 0
  have xa1 : w3.cell? ⟨w.heap.size, 1, none⟩ = some (.int .i64 k) := Qa.out.cell 1
  have xa2 : w3.cell? ⟨w.heap.size, 2, none⟩ = some (.int .u64 a) := Qa.out.cell 2
  have xa3 : w3.cell? ⟨w.heap.size, 3, none⟩ = some (.int .u64 b) := Qa.out.cell 3
  have xa4 : w3.cell? ⟨w.heap.size, 4, none⟩ = some (.int .u64 c) := Qa.out.cell 4
  have xa5 : w3.cell? ⟨w.heap.size, 5, none⟩ = some (.string p) := Qa.out.cell 5
  have xb0 : w3.cell? ⟨w.heap.size + 1, 0, none⟩ = some (.int .u64 a') := Qb.out.cell 0
  have xb1 : w3.cell? ⟨w.heap.size + 1, 1, none⟩ = some (.int .u64 b') := Qb.out.cell 1
  have xb2 : w3.cell? ⟨w.heap.size + 1, 2, none⟩ = some (.int .u64 c') := Qb.out.cell 2
  have xb3 : w3.cell? ⟨w.heap.size + 1, 3, none⟩ = some (.string p') := Qb.out.cell 3
  have xb4 : w3.cell? ⟨w.heap.size + 1, 4, none⟩ = some (.string m') := Qb.out.cell 4
  go_wp2_with fail
  go_ret
  exact ⟨rfl, B.out⟩

set_option maxHeartbeats 800000 in
set_option maxRecDepth 100000 in
theorem win_1 (o : Int) (a b c : Int) (p : ByteArray) (a' b' c' : Int) (p' m' : ByteArray) (w : World) (hp : p.size ≤ maxLen) (hp' : p'.size ≤ maxLen) (hm' : m'.size ≤ maxLen) (hv : Vars w) (f0 : decide (p.size ≤ 2147483647) = true) (f1 : fitB p' m' = true) (s0 : p.size ≤ 2147483647) (s1 : p'.size ≤ 2147483647 ∧ m'.size ≤ 2147483647) (f2 : (goodT 7 3 a b c p && verOk ⟨0, 0, 0, p', m'⟩) = true) (q1 : (a' == a) = false) (q2 : (a == 0) = false) (r : Bool) (hr1 : ∀ g h, OpIs 97 g h a' b' c' p' m' a b c p ByteArray.empty (opS (opM o)) ByteArray.empty (3 == 1) (decide (3 < 3)) (3 == 2) true false) (hr2 : ∀ g h, OpIs 104 g h a' b' c' p' m' a b c p ByteArray.empty (opS (opM o)) ByteArray.empty (3 == 1) (decide (3 < 3)) (3 == 2) true r) (hr3 : ∀ g h, OpIs 97 g h a b c p ByteArray.empty a b c p ByteArray.empty (opS (opM o)) ByteArray.empty (3 == 1) (decide (3 < 3)) (3 == 2) true true) :
    Calls Tryd.prog 8 #[.agg #[.int .i64 o, .int .i64 3, .int .u64 a, .int .u64 b, .int .u64 c, .string p], .agg (scells a' b' c' p' m')] w fun e w' => e = .returned (.bool true) ∧ Below w.heap.size w w' := by
  have B := hid (show Below w.heap.size w ((w.alloc (.cells #[.int .i64 o, .int .i64 3, .int .u64 a, .int .u64 b, .int .u64 c, .string p] 36)).alloc (.cells #[.int .u64 a', .int .u64 b', .int .u64 c', .string p', .string m'] 27)) by go_grown)
  have Z := hid (show w.heap.size + 2 ≤ ((w.alloc (.cells #[.int .i64 o, .int .i64 3, .int .u64 a, .int .u64 b, .int .u64 c, .string p] 36)).alloc (.cells #[.int .u64 a', .int .u64 b', .int .u64 c', .string p', .string m'] 27)).heap.size by simp only [World.size_alloc]; omega)
  obtain ⟨qa, qb⟩ := two_new w (#[.int .i64 o, .int .i64 3, .int .u64 a, .int .u64 b, .int .u64 c, .string p]) (#[.int .u64 a', .int .u64 b', .int .u64 c', .string p', .string m']) 36 27
  have Qa := hid qa
  have Qb := hid qb
  clear qa qb
  have HV := hid hv
  clear hv
  have HR1 := hid hr1
  clear hr1
  have HR2 := hid hr2
  clear hr2
  have HR3 := hid hr3
  clear hr3
  go_enter Tryd.func8, Tryd.ntmps8
  go_wp2_with fail
  go_at_call 25
  refine (fits13_any _ _ a b c p _ hp).mono ?_
  rintro e w1 ⟨rfl, hb⟩
  replace Qa := hid ((Qa.out).below hb)
  replace Qb := hid ((Qb.out).below hb)
  replace Z := hid (Nat.le_trans (Nat.le_trans Z.out (by first | exact Nat.le_refl _ | omega | (simp only [World.size_alloc, World.size_drew]; omega))) hb.size)
  replace B := hid (bt B.out hb)
  clear hb
  have xa0 : w1.cell? ⟨w.heap.size, 0, none⟩ = some (.int .i64 o) := Qa.out.cell 0
  have xa1 : w1.cell? ⟨w.heap.size, 1, none⟩ = some (.int .i64 3) := Qa.out.cell 1
  have xa2 : w1.cell? ⟨w.heap.size, 2, none⟩ = some (.int .u64 a) := Qa.out.cell 2
  have xa3 : w1.cell? ⟨w.heap.size, 3, none⟩ = some (.int .u64 b) := Qa.out.cell 3
  have xa4 : w1.cell? ⟨w.heap.size, 4, none⟩ = some (.int .u64 c) := Qa.out.cell 4
  have xa5 : w1.cell? ⟨w.heap.size, 5, none⟩ = some (.string p) := Qa.out.cell 5
  have xb0 : w1.cell? ⟨w.heap.size + 1, 0, none⟩ = some (.int .u64 a') := Qb.out.cell 0
  have xb1 : w1.cell? ⟨w.heap.size + 1, 1, none⟩ = some (.int .u64 b') := Qb.out.cell 1
  have xb2 : w1.cell? ⟨w.heap.size + 1, 2, none⟩ = some (.int .u64 c') := Qb.out.cell 2
  have xb3 : w1.cell? ⟨w.heap.size + 1, 3, none⟩ = some (.string p') := Qb.out.cell 3
  have xb4 : w1.cell? ⟨w.heap.size + 1, 4, none⟩ = some (.string m') := Qb.out.cell 4
  go_wp2_with fail
  go_at_call 17
  refine (fitB_any a' b' c' p' m' _ hp' hm').mono ?_
  rintro e w2 ⟨rfl, hb⟩
  replace Qa := hid ((Qa.out).below hb)
  replace Qb := hid ((Qb.out).below hb)
  replace Z := hid (Nat.le_trans (Nat.le_trans Z.out (by first | exact Nat.le_refl _ | omega | (simp only [World.size_alloc, World.size_drew]; omega))) hb.size)
  replace B := hid (bt B.out hb)
  clear hb
  have xa0 : w2.cell? ⟨w.heap.size, 0, none⟩ = some (.int .i64 o) := Qa.out.cell 0
  have xa1 : w2.cell? ⟨w.heap.size, 1, none⟩ = some (.int .i64 3) := Qa.out.cell 1
  have xa2 : w2.cell? ⟨w.heap.size, 2, none⟩ = some (.int .u64 a) := Qa.out.cell 2
  have xa3 : w2.cell? ⟨w.heap.size, 3, none⟩ = some (.int .u64 b) := Qa.out.cell 3
  have xa4 : w2.cell? ⟨w.heap.size, 4, none⟩ = some (.int .u64 c) := Qa.out.cell 4
  have xa5 : w2.cell? ⟨w.heap.size, 5, none⟩ = some (.string p) := Qa.out.cell 5
  have xb0 : w2.cell? ⟨w.heap.size + 1, 0, none⟩ = some (.int .u64 a') := Qb.out.cell 0
  have xb1 : w2.cell? ⟨w.heap.size + 1, 1, none⟩ = some (.int .u64 b') := Qb.out.cell 1
  have xb2 : w2.cell? ⟨w.heap.size + 1, 2, none⟩ = some (.int .u64 c') := Qb.out.cell 2
  have xb3 : w2.cell? ⟨w.heap.size + 1, 3, none⟩ = some (.string p') := Qb.out.cell 3
  have xb4 : w2.cell? ⟨w.heap.size + 1, 4, none⟩ = some (.string m') := Qb.out.cell 4
  go_wp2_with fail
  go_at_call 26
  refine (asked_7 o 3 a b c p a' b' c' p' m' _ s0 s1).mono ?_
  rintro e w3 ⟨rfl, hb⟩
  replace Qa := hid ((Qa.out).below hb)
  replace Qb := hid ((Qb.out).below hb)
  replace Z := hid (Nat.le_trans (Nat.le_trans Z.out (by first | exact Nat.le_refl _ | omega | (simp only [World.size_alloc, World.size_drew]; omega))) hb.size)
  replace B := hid (bt B.out hb)
  clear hb
  have xa0 : w3.cell? ⟨w.heap.size, 0, none⟩ = some (.int .i64 o) := Qa.out.cell 0
  have xa1 : w3.cell? ⟨w.heap.size, 1, none⟩ = some (.int .i64 3) := Qa.out.cell 1
  have xa2 : w3.cell? ⟨w.heap.size, 2, none⟩ = some (.int .u64 a) := Qa.out.cell 2
  have xa3 : w3.cell? ⟨w.heap.size, 3, none⟩ = some (.int .u64 b) := Qa.out.cell 3
  have xa4 : w3.cell? ⟨w.heap.size, 4, none⟩ = some (.int .u64 c) := Qa.out.cell 4
  have xa5 : w3.cell? ⟨w.heap.size, 5, none⟩ = some (.string p) := Qa.out.cell 5
  have xb0 : w3.cell? ⟨w.heap.size + 1, 0, none⟩ = some (.int .u64 a') := Qb.out.cell 0
  have xb1 : w3.cell? ⟨w.heap.size + 1, 1, none⟩ = some (.int .u64 b') := Qb.out.cell 1
  have xb2 : w3.cell? ⟨w.heap.size + 1, 2, none⟩ = some (.int .u64 c') := Qb.out.cell 2
  have xb3 : w3.cell? ⟨w.heap.size + 1, 3, none⟩ = some (.string p') := Qb.out.cell 3
  have xb4 : w3.cell? ⟨w.heap.size + 1, 4, none⟩ = some (.string m') := Qb.out.cell 4
  go_wp2_with fail
  have C1 := hid (fun d os => Calls.regrown_of (caretHoldsM o 3 (by omega) a' b' c' p' m' a b c p true _ (Go.Sort.grow (redrawn w3 d) os) (HV.out.below (bt B.out (below_regrown w3 d os))) HR1.out))
  have C2 := hid (fun d os => Calls.regrown_of (leastHoldsM o 3 (by omega) a' b' c' p' m' a b c p true _ (Go.Sort.grow (redrawn w3 d) os) (HV.out.below (bt B.out (below_regrown w3 d os))) HR2.out))
  have C3 := hid (fun d os => Calls.regrown_of (leastV_any o 3 a b c p (Go.Sort.grow (redrawn w3 d) os)))
  have C4 := hid (fun d os => Calls.regrown_of (caretHoldsM o 3 (by omega) a b c p ByteArray.empty a b c p true _ (Go.Sort.grow (redrawn w3 d) os) (HV.out.below (bt B.out (below_regrown w3 d os))) HR3.out))
  have kQa0 : ∀ d os, (Go.Sort.grow (redrawn w3 d) os).cell? ⟨w.heap.size, 0, none⟩ = some (.int .i64 o) := fun d os => (blk_gr Qa.out d os).cell 0
  have kQa1 : ∀ d os, (Go.Sort.grow (redrawn w3 d) os).cell? ⟨w.heap.size, 1, none⟩ = some (.int .i64 3) := fun d os => (blk_gr Qa.out d os).cell 1
  have kQa2 : ∀ d os, (Go.Sort.grow (redrawn w3 d) os).cell? ⟨w.heap.size, 2, none⟩ = some (.int .u64 a) := fun d os => (blk_gr Qa.out d os).cell 2
  have kQa3 : ∀ d os, (Go.Sort.grow (redrawn w3 d) os).cell? ⟨w.heap.size, 3, none⟩ = some (.int .u64 b) := fun d os => (blk_gr Qa.out d os).cell 3
  have kQa4 : ∀ d os, (Go.Sort.grow (redrawn w3 d) os).cell? ⟨w.heap.size, 4, none⟩ = some (.int .u64 c) := fun d os => (blk_gr Qa.out d os).cell 4
  have kQa5 : ∀ d os, (Go.Sort.grow (redrawn w3 d) os).cell? ⟨w.heap.size, 5, none⟩ = some (.string p) := fun d os => (blk_gr Qa.out d os).cell 5
  have kQb0 : ∀ d os, (Go.Sort.grow (redrawn w3 d) os).cell? ⟨w.heap.size + 1, 0, none⟩ = some (.int .u64 a') := fun d os => (blk_gr Qb.out d os).cell 0
  have kQb1 : ∀ d os, (Go.Sort.grow (redrawn w3 d) os).cell? ⟨w.heap.size + 1, 1, none⟩ = some (.int .u64 b') := fun d os => (blk_gr Qb.out d os).cell 1
  have kQb2 : ∀ d os, (Go.Sort.grow (redrawn w3 d) os).cell? ⟨w.heap.size + 1, 2, none⟩ = some (.int .u64 c') := fun d os => (blk_gr Qb.out d os).cell 2
  have kQb3 : ∀ d os, (Go.Sort.grow (redrawn w3 d) os).cell? ⟨w.heap.size + 1, 3, none⟩ = some (.string p') := fun d os => (blk_gr Qb.out d os).cell 3
  have kQb4 : ∀ d os, (Go.Sort.grow (redrawn w3 d) os).cell? ⟨w.heap.size + 1, 4, none⟩ = some (.string m') := fun d os => (blk_gr Qb.out d os).cell 4
  refine wp_region_quiet_below (by kernel_rfl) (by kernel_rfl) ?_
  repeat (go_big_quiet_step ((first | (go_at_call_of 27 (Value.string m'); exact C1.out _ _) | (go_at_call 30; exact C2.out _ _) | (go_at_call 31; exact C3.out _ _) | (go_at_call 27; exact C4.out _ _) | fail)))
  refine wpQuiet_nil ?_
  intro _ hw'
  obtain ⟨⟨dq, osq⟩, hw''⟩ := hw'
  subst hw''
  go_wp2_with fail
  go_ret
  exact ⟨rfl, bt B.out (below_regrown _ _ _)⟩

set_option maxHeartbeats 800000 in
set_option maxRecDepth 100000 in
theorem win_2 (o : Int) (a b c : Int) (p : ByteArray) (a' b' c' : Int) (p' m' : ByteArray) (w : World) (hp : p.size ≤ maxLen) (hp' : p'.size ≤ maxLen) (hm' : m'.size ≤ maxLen) (hv : Vars w) (f0 : decide (p.size ≤ 2147483647) = true) (f1 : fitB p' m' = true) (s0 : p.size ≤ 2147483647) (s1 : p'.size ≤ 2147483647 ∧ m'.size ≤ 2147483647) (f2 : (goodT 7 3 a b c p && verOk ⟨0, 0, 0, p', m'⟩) = true) (q1 : (a' == a) = false) (q2 : (a == 0) = true) (q3 : (b == 0) = false) (r : Bool) (hr1 : ∀ g h, OpIs 97 g h a' b' c' p' m' a b c p ByteArray.empty (opS (opM o)) ByteArray.empty (3 == 1) (decide (3 < 3)) (3 == 2) true false) (hr2 : ∀ g h, OpIs 104 g h a' b' c' p' m' a b c p ByteArray.empty (opS (opM o)) ByteArray.empty (3 == 1) (decide (3 < 3)) (3 == 2) true r) (hr3 : ∀ g h, OpIs 97 g h a b c p ByteArray.empty a b c p ByteArray.empty (opS (opM o)) ByteArray.empty (3 == 1) (decide (3 < 3)) (3 == 2) true true) :
    Calls Tryd.prog 8 #[.agg #[.int .i64 o, .int .i64 3, .int .u64 a, .int .u64 b, .int .u64 c, .string p], .agg (scells a' b' c' p' m')] w fun e w' => e = .returned (.bool true) ∧ Below w.heap.size w w' := by
  have B := hid (show Below w.heap.size w ((w.alloc (.cells #[.int .i64 o, .int .i64 3, .int .u64 a, .int .u64 b, .int .u64 c, .string p] 36)).alloc (.cells #[.int .u64 a', .int .u64 b', .int .u64 c', .string p', .string m'] 27)) by go_grown)
  have Z := hid (show w.heap.size + 2 ≤ ((w.alloc (.cells #[.int .i64 o, .int .i64 3, .int .u64 a, .int .u64 b, .int .u64 c, .string p] 36)).alloc (.cells #[.int .u64 a', .int .u64 b', .int .u64 c', .string p', .string m'] 27)).heap.size by simp only [World.size_alloc]; omega)
  obtain ⟨qa, qb⟩ := two_new w (#[.int .i64 o, .int .i64 3, .int .u64 a, .int .u64 b, .int .u64 c, .string p]) (#[.int .u64 a', .int .u64 b', .int .u64 c', .string p', .string m']) 36 27
  have Qa := hid qa
  have Qb := hid qb
  clear qa qb
  have HV := hid hv
  clear hv
  have HR1 := hid hr1
  clear hr1
  have HR2 := hid hr2
  clear hr2
  have HR3 := hid hr3
  clear hr3
  go_enter Tryd.func8, Tryd.ntmps8
  go_wp2_with fail
  go_at_call 25
  refine (fits13_any _ _ a b c p _ hp).mono ?_
  rintro e w1 ⟨rfl, hb⟩
  replace Qa := hid ((Qa.out).below hb)
  replace Qb := hid ((Qb.out).below hb)
  replace Z := hid (Nat.le_trans (Nat.le_trans Z.out (by first | exact Nat.le_refl _ | omega | (simp only [World.size_alloc, World.size_drew]; omega))) hb.size)
  replace B := hid (bt B.out hb)
  clear hb
  have xa0 : w1.cell? ⟨w.heap.size, 0, none⟩ = some (.int .i64 o) := Qa.out.cell 0
  have xa1 : w1.cell? ⟨w.heap.size, 1, none⟩ = some (.int .i64 3) := Qa.out.cell 1
  have xa2 : w1.cell? ⟨w.heap.size, 2, none⟩ = some (.int .u64 a) := Qa.out.cell 2
  have xa3 : w1.cell? ⟨w.heap.size, 3, none⟩ = some (.int .u64 b) := Qa.out.cell 3
  have xa4 : w1.cell? ⟨w.heap.size, 4, none⟩ = some (.int .u64 c) := Qa.out.cell 4
  have xa5 : w1.cell? ⟨w.heap.size, 5, none⟩ = some (.string p) := Qa.out.cell 5
  have xb0 : w1.cell? ⟨w.heap.size + 1, 0, none⟩ = some (.int .u64 a') := Qb.out.cell 0
  have xb1 : w1.cell? ⟨w.heap.size + 1, 1, none⟩ = some (.int .u64 b') := Qb.out.cell 1
  have xb2 : w1.cell? ⟨w.heap.size + 1, 2, none⟩ = some (.int .u64 c') := Qb.out.cell 2
  have xb3 : w1.cell? ⟨w.heap.size + 1, 3, none⟩ = some (.string p') := Qb.out.cell 3
  have xb4 : w1.cell? ⟨w.heap.size + 1, 4, none⟩ = some (.string m') := Qb.out.cell 4
  go_wp2_with fail
  go_at_call 17
  refine (fitB_any a' b' c' p' m' _ hp' hm').mono ?_
  rintro e w2 ⟨rfl, hb⟩
  replace Qa := hid ((Qa.out).below hb)
  replace Qb := hid ((Qb.out).below hb)
  replace Z := hid (Nat.le_trans (Nat.le_trans Z.out (by first | exact Nat.le_refl _ | omega | (simp only [World.size_alloc, World.size_drew]; omega))) hb.size)
  replace B := hid (bt B.out hb)
  clear hb
  have xa0 : w2.cell? ⟨w.heap.size, 0, none⟩ = some (.int .i64 o) := Qa.out.cell 0
  have xa1 : w2.cell? ⟨w.heap.size, 1, none⟩ = some (.int .i64 3) := Qa.out.cell 1
  have xa2 : w2.cell? ⟨w.heap.size, 2, none⟩ = some (.int .u64 a) := Qa.out.cell 2
  have xa3 : w2.cell? ⟨w.heap.size, 3, none⟩ = some (.int .u64 b) := Qa.out.cell 3
  have xa4 : w2.cell? ⟨w.heap.size, 4, none⟩ = some (.int .u64 c) := Qa.out.cell 4
  have xa5 : w2.cell? ⟨w.heap.size, 5, none⟩ = some (.string p) := Qa.out.cell 5
  have xb0 : w2.cell? ⟨w.heap.size + 1, 0, none⟩ = some (.int .u64 a') := Qb.out.cell 0
  have xb1 : w2.cell? ⟨w.heap.size + 1, 1, none⟩ = some (.int .u64 b') := Qb.out.cell 1
  have xb2 : w2.cell? ⟨w.heap.size + 1, 2, none⟩ = some (.int .u64 c') := Qb.out.cell 2
  have xb3 : w2.cell? ⟨w.heap.size + 1, 3, none⟩ = some (.string p') := Qb.out.cell 3
  have xb4 : w2.cell? ⟨w.heap.size + 1, 4, none⟩ = some (.string m') := Qb.out.cell 4
  go_wp2_with fail
  go_at_call 26
  refine (asked_7 o 3 a b c p a' b' c' p' m' _ s0 s1).mono ?_
  rintro e w3 ⟨rfl, hb⟩
  replace Qa := hid ((Qa.out).below hb)
  replace Qb := hid ((Qb.out).below hb)
  replace Z := hid (Nat.le_trans (Nat.le_trans Z.out (by first | exact Nat.le_refl _ | omega | (simp only [World.size_alloc, World.size_drew]; omega))) hb.size)
  replace B := hid (bt B.out hb)
  clear hb
  have xa0 : w3.cell? ⟨w.heap.size, 0, none⟩ = some (.int .i64 o) := Qa.out.cell 0
  have xa1 : w3.cell? ⟨w.heap.size, 1, none⟩ = some (.int .i64 3) := Qa.out.cell 1
  have xa2 : w3.cell? ⟨w.heap.size, 2, none⟩ = some (.int .u64 a) := Qa.out.cell 2
  have xa3 : w3.cell? ⟨w.heap.size, 3, none⟩ = some (.int .u64 b) := Qa.out.cell 3
  have xa4 : w3.cell? ⟨w.heap.size, 4, none⟩ = some (.int .u64 c) := Qa.out.cell 4
  have xa5 : w3.cell? ⟨w.heap.size, 5, none⟩ = some (.string p) := Qa.out.cell 5
  have xb0 : w3.cell? ⟨w.heap.size + 1, 0, none⟩ = some (.int .u64 a') := Qb.out.cell 0
  have xb1 : w3.cell? ⟨w.heap.size + 1, 1, none⟩ = some (.int .u64 b') := Qb.out.cell 1
  have xb2 : w3.cell? ⟨w.heap.size + 1, 2, none⟩ = some (.int .u64 c') := Qb.out.cell 2
  have xb3 : w3.cell? ⟨w.heap.size + 1, 3, none⟩ = some (.string p') := Qb.out.cell 3
  have xb4 : w3.cell? ⟨w.heap.size + 1, 4, none⟩ = some (.string m') := Qb.out.cell 4
  go_wp2_with fail
  have C1 := hid (fun d os => Calls.regrown_of (caretHoldsM o 3 (by omega) a' b' c' p' m' a b c p true _ (Go.Sort.grow (redrawn w3 d) os) (HV.out.below (bt B.out (below_regrown w3 d os))) HR1.out))
  have C2 := hid (fun d os => Calls.regrown_of (leastHoldsM o 3 (by omega) a' b' c' p' m' a b c p true _ (Go.Sort.grow (redrawn w3 d) os) (HV.out.below (bt B.out (below_regrown w3 d os))) HR2.out))
  have C3 := hid (fun d os => Calls.regrown_of (leastV_any o 3 a b c p (Go.Sort.grow (redrawn w3 d) os)))
  have C4 := hid (fun d os => Calls.regrown_of (caretHoldsM o 3 (by omega) a b c p ByteArray.empty a b c p true _ (Go.Sort.grow (redrawn w3 d) os) (HV.out.below (bt B.out (below_regrown w3 d os))) HR3.out))
  have kQa0 : ∀ d os, (Go.Sort.grow (redrawn w3 d) os).cell? ⟨w.heap.size, 0, none⟩ = some (.int .i64 o) := fun d os => (blk_gr Qa.out d os).cell 0
  have kQa1 : ∀ d os, (Go.Sort.grow (redrawn w3 d) os).cell? ⟨w.heap.size, 1, none⟩ = some (.int .i64 3) := fun d os => (blk_gr Qa.out d os).cell 1
  have kQa2 : ∀ d os, (Go.Sort.grow (redrawn w3 d) os).cell? ⟨w.heap.size, 2, none⟩ = some (.int .u64 a) := fun d os => (blk_gr Qa.out d os).cell 2
  have kQa3 : ∀ d os, (Go.Sort.grow (redrawn w3 d) os).cell? ⟨w.heap.size, 3, none⟩ = some (.int .u64 b) := fun d os => (blk_gr Qa.out d os).cell 3
  have kQa4 : ∀ d os, (Go.Sort.grow (redrawn w3 d) os).cell? ⟨w.heap.size, 4, none⟩ = some (.int .u64 c) := fun d os => (blk_gr Qa.out d os).cell 4
  have kQa5 : ∀ d os, (Go.Sort.grow (redrawn w3 d) os).cell? ⟨w.heap.size, 5, none⟩ = some (.string p) := fun d os => (blk_gr Qa.out d os).cell 5
  have kQb0 : ∀ d os, (Go.Sort.grow (redrawn w3 d) os).cell? ⟨w.heap.size + 1, 0, none⟩ = some (.int .u64 a') := fun d os => (blk_gr Qb.out d os).cell 0
  have kQb1 : ∀ d os, (Go.Sort.grow (redrawn w3 d) os).cell? ⟨w.heap.size + 1, 1, none⟩ = some (.int .u64 b') := fun d os => (blk_gr Qb.out d os).cell 1
  have kQb2 : ∀ d os, (Go.Sort.grow (redrawn w3 d) os).cell? ⟨w.heap.size + 1, 2, none⟩ = some (.int .u64 c') := fun d os => (blk_gr Qb.out d os).cell 2
  have kQb3 : ∀ d os, (Go.Sort.grow (redrawn w3 d) os).cell? ⟨w.heap.size + 1, 3, none⟩ = some (.string p') := fun d os => (blk_gr Qb.out d os).cell 3
  have kQb4 : ∀ d os, (Go.Sort.grow (redrawn w3 d) os).cell? ⟨w.heap.size + 1, 4, none⟩ = some (.string m') := fun d os => (blk_gr Qb.out d os).cell 4
  refine wp_region_quiet_below (by kernel_rfl) (by kernel_rfl) ?_
  repeat (go_big_quiet_step ((first | (go_at_call_of 27 (Value.string m'); exact C1.out _ _) | (go_at_call 30; exact C2.out _ _) | (go_at_call 31; exact C3.out _ _) | (go_at_call 27; exact C4.out _ _) | fail)))
  refine wpQuiet_nil ?_
  intro _ hw'
  obtain ⟨⟨dq, osq⟩, hw''⟩ := hw'
  subst hw''
  go_wp2_with fail
  go_ret
  exact ⟨rfl, bt B.out (below_regrown _ _ _)⟩

set_option maxHeartbeats 800000 in
set_option maxRecDepth 100000 in
theorem win_3 (o : Int) (a b c : Int) (p : ByteArray) (a' b' c' : Int) (p' m' : ByteArray) (w : World) (hp : p.size ≤ maxLen) (hp' : p'.size ≤ maxLen) (hm' : m'.size ≤ maxLen) (hv : Vars w) (f0 : decide (p.size ≤ 2147483647) = true) (f1 : fitB p' m' = true) (s0 : p.size ≤ 2147483647) (s1 : p'.size ≤ 2147483647 ∧ m'.size ≤ 2147483647) (f2 : (goodT 7 3 a b c p && verOk ⟨0, 0, 0, p', m'⟩) = true) (q1 : (a' == a) = false) (q2 : (a == 0) = true) (q3 : (b == 0) = true) (r : Bool) (hr1 : ∀ g h, OpIs 97 g h a' b' c' p' m' a b c p ByteArray.empty (opS (opM o)) ByteArray.empty (3 == 1) (decide (3 < 3)) (3 == 2) true false) (hr2 : ∀ g h, OpIs 104 g h a' b' c' p' m' a b c p ByteArray.empty (opS (opM o)) ByteArray.empty (3 == 1) (decide (3 < 3)) (3 == 2) true r) (hr3 : ∀ g h, OpIs 97 g h a b c p ByteArray.empty a b c p ByteArray.empty (opS (opM o)) ByteArray.empty (3 == 1) (decide (3 < 3)) (3 == 2) true true) :
    Calls Tryd.prog 8 #[.agg #[.int .i64 o, .int .i64 3, .int .u64 a, .int .u64 b, .int .u64 c, .string p], .agg (scells a' b' c' p' m')] w fun e w' => e = .returned (.bool true) ∧ Below w.heap.size w w' := by
  have B := hid (show Below w.heap.size w ((w.alloc (.cells #[.int .i64 o, .int .i64 3, .int .u64 a, .int .u64 b, .int .u64 c, .string p] 36)).alloc (.cells #[.int .u64 a', .int .u64 b', .int .u64 c', .string p', .string m'] 27)) by go_grown)
  have Z := hid (show w.heap.size + 2 ≤ ((w.alloc (.cells #[.int .i64 o, .int .i64 3, .int .u64 a, .int .u64 b, .int .u64 c, .string p] 36)).alloc (.cells #[.int .u64 a', .int .u64 b', .int .u64 c', .string p', .string m'] 27)).heap.size by simp only [World.size_alloc]; omega)
  obtain ⟨qa, qb⟩ := two_new w (#[.int .i64 o, .int .i64 3, .int .u64 a, .int .u64 b, .int .u64 c, .string p]) (#[.int .u64 a', .int .u64 b', .int .u64 c', .string p', .string m']) 36 27
  have Qa := hid qa
  have Qb := hid qb
  clear qa qb
  have HV := hid hv
  clear hv
  have HR1 := hid hr1
  clear hr1
  have HR2 := hid hr2
  clear hr2
  have HR3 := hid hr3
  clear hr3
  go_enter Tryd.func8, Tryd.ntmps8
  go_wp2_with fail
  go_at_call 25
  refine (fits13_any _ _ a b c p _ hp).mono ?_
  rintro e w1 ⟨rfl, hb⟩
  replace Qa := hid ((Qa.out).below hb)
  replace Qb := hid ((Qb.out).below hb)
  replace Z := hid (Nat.le_trans (Nat.le_trans Z.out (by first | exact Nat.le_refl _ | omega | (simp only [World.size_alloc, World.size_drew]; omega))) hb.size)
  replace B := hid (bt B.out hb)
  clear hb
  have xa0 : w1.cell? ⟨w.heap.size, 0, none⟩ = some (.int .i64 o) := Qa.out.cell 0
  have xa1 : w1.cell? ⟨w.heap.size, 1, none⟩ = some (.int .i64 3) := Qa.out.cell 1
  have xa2 : w1.cell? ⟨w.heap.size, 2, none⟩ = some (.int .u64 a) := Qa.out.cell 2
  have xa3 : w1.cell? ⟨w.heap.size, 3, none⟩ = some (.int .u64 b) := Qa.out.cell 3
  have xa4 : w1.cell? ⟨w.heap.size, 4, none⟩ = some (.int .u64 c) := Qa.out.cell 4
  have xa5 : w1.cell? ⟨w.heap.size, 5, none⟩ = some (.string p) := Qa.out.cell 5
  have xb0 : w1.cell? ⟨w.heap.size + 1, 0, none⟩ = some (.int .u64 a') := Qb.out.cell 0
  have xb1 : w1.cell? ⟨w.heap.size + 1, 1, none⟩ = some (.int .u64 b') := Qb.out.cell 1
  have xb2 : w1.cell? ⟨w.heap.size + 1, 2, none⟩ = some (.int .u64 c') := Qb.out.cell 2
  have xb3 : w1.cell? ⟨w.heap.size + 1, 3, none⟩ = some (.string p') := Qb.out.cell 3
  have xb4 : w1.cell? ⟨w.heap.size + 1, 4, none⟩ = some (.string m') := Qb.out.cell 4
  go_wp2_with fail
  go_at_call 17
  refine (fitB_any a' b' c' p' m' _ hp' hm').mono ?_
  rintro e w2 ⟨rfl, hb⟩
  replace Qa := hid ((Qa.out).below hb)
  replace Qb := hid ((Qb.out).below hb)
  replace Z := hid (Nat.le_trans (Nat.le_trans Z.out (by first | exact Nat.le_refl _ | omega | (simp only [World.size_alloc, World.size_drew]; omega))) hb.size)
  replace B := hid (bt B.out hb)
  clear hb
  have xa0 : w2.cell? ⟨w.heap.size, 0, none⟩ = some (.int .i64 o) := Qa.out.cell 0
  have xa1 : w2.cell? ⟨w.heap.size, 1, none⟩ = some (.int .i64 3) := Qa.out.cell 1
  have xa2 : w2.cell? ⟨w.heap.size, 2, none⟩ = some (.int .u64 a) := Qa.out.cell 2
  have xa3 : w2.cell? ⟨w.heap.size, 3, none⟩ = some (.int .u64 b) := Qa.out.cell 3
  have xa4 : w2.cell? ⟨w.heap.size, 4, none⟩ = some (.int .u64 c) := Qa.out.cell 4
  have xa5 : w2.cell? ⟨w.heap.size, 5, none⟩ = some (.string p) := Qa.out.cell 5
  have xb0 : w2.cell? ⟨w.heap.size + 1, 0, none⟩ = some (.int .u64 a') := Qb.out.cell 0
  have xb1 : w2.cell? ⟨w.heap.size + 1, 1, none⟩ = some (.int .u64 b') := Qb.out.cell 1
  have xb2 : w2.cell? ⟨w.heap.size + 1, 2, none⟩ = some (.int .u64 c') := Qb.out.cell 2
  have xb3 : w2.cell? ⟨w.heap.size + 1, 3, none⟩ = some (.string p') := Qb.out.cell 3
  have xb4 : w2.cell? ⟨w.heap.size + 1, 4, none⟩ = some (.string m') := Qb.out.cell 4
  go_wp2_with fail
  go_at_call 26
  refine (asked_7 o 3 a b c p a' b' c' p' m' _ s0 s1).mono ?_
  rintro e w3 ⟨rfl, hb⟩
  replace Qa := hid ((Qa.out).below hb)
  replace Qb := hid ((Qb.out).below hb)
  replace Z := hid (Nat.le_trans (Nat.le_trans Z.out (by first | exact Nat.le_refl _ | omega | (simp only [World.size_alloc, World.size_drew]; omega))) hb.size)
  replace B := hid (bt B.out hb)
  clear hb
  have xa0 : w3.cell? ⟨w.heap.size, 0, none⟩ = some (.int .i64 o) := Qa.out.cell 0
  have xa1 : w3.cell? ⟨w.heap.size, 1, none⟩ = some (.int .i64 3) := Qa.out.cell 1
  have xa2 : w3.cell? ⟨w.heap.size, 2, none⟩ = some (.int .u64 a) := Qa.out.cell 2
  have xa3 : w3.cell? ⟨w.heap.size, 3, none⟩ = some (.int .u64 b) := Qa.out.cell 3
  have xa4 : w3.cell? ⟨w.heap.size, 4, none⟩ = some (.int .u64 c) := Qa.out.cell 4
  have xa5 : w3.cell? ⟨w.heap.size, 5, none⟩ = some (.string p) := Qa.out.cell 5
  have xb0 : w3.cell? ⟨w.heap.size + 1, 0, none⟩ = some (.int .u64 a') := Qb.out.cell 0
  have xb1 : w3.cell? ⟨w.heap.size + 1, 1, none⟩ = some (.int .u64 b') := Qb.out.cell 1
  have xb2 : w3.cell? ⟨w.heap.size + 1, 2, none⟩ = some (.int .u64 c') := Qb.out.cell 2
  have xb3 : w3.cell? ⟨w.heap.size + 1, 3, none⟩ = some (.string p') := Qb.out.cell 3
  have xb4 : w3.cell? ⟨w.heap.size + 1, 4, none⟩ = some (.string m') := Qb.out.cell 4
  go_wp2_with fail
  have C1 := hid (fun d os => Calls.regrown_of (caretHoldsM o 3 (by omega) a' b' c' p' m' a b c p true _ (Go.Sort.grow (redrawn w3 d) os) (HV.out.below (bt B.out (below_regrown w3 d os))) HR1.out))
  have C2 := hid (fun d os => Calls.regrown_of (leastHoldsM o 3 (by omega) a' b' c' p' m' a b c p true _ (Go.Sort.grow (redrawn w3 d) os) (HV.out.below (bt B.out (below_regrown w3 d os))) HR2.out))
  have C3 := hid (fun d os => Calls.regrown_of (leastV_any o 3 a b c p (Go.Sort.grow (redrawn w3 d) os)))
  have C4 := hid (fun d os => Calls.regrown_of (caretHoldsM o 3 (by omega) a b c p ByteArray.empty a b c p true _ (Go.Sort.grow (redrawn w3 d) os) (HV.out.below (bt B.out (below_regrown w3 d os))) HR3.out))
  have kQa0 : ∀ d os, (Go.Sort.grow (redrawn w3 d) os).cell? ⟨w.heap.size, 0, none⟩ = some (.int .i64 o) := fun d os => (blk_gr Qa.out d os).cell 0
  have kQa1 : ∀ d os, (Go.Sort.grow (redrawn w3 d) os).cell? ⟨w.heap.size, 1, none⟩ = some (.int .i64 3) := fun d os => (blk_gr Qa.out d os).cell 1
  have kQa2 : ∀ d os, (Go.Sort.grow (redrawn w3 d) os).cell? ⟨w.heap.size, 2, none⟩ = some (.int .u64 a) := fun d os => (blk_gr Qa.out d os).cell 2
  have kQa3 : ∀ d os, (Go.Sort.grow (redrawn w3 d) os).cell? ⟨w.heap.size, 3, none⟩ = some (.int .u64 b) := fun d os => (blk_gr Qa.out d os).cell 3
  have kQa4 : ∀ d os, (Go.Sort.grow (redrawn w3 d) os).cell? ⟨w.heap.size, 4, none⟩ = some (.int .u64 c) := fun d os => (blk_gr Qa.out d os).cell 4
  have kQa5 : ∀ d os, (Go.Sort.grow (redrawn w3 d) os).cell? ⟨w.heap.size, 5, none⟩ = some (.string p) := fun d os => (blk_gr Qa.out d os).cell 5
  have kQb0 : ∀ d os, (Go.Sort.grow (redrawn w3 d) os).cell? ⟨w.heap.size + 1, 0, none⟩ = some (.int .u64 a') := fun d os => (blk_gr Qb.out d os).cell 0
  have kQb1 : ∀ d os, (Go.Sort.grow (redrawn w3 d) os).cell? ⟨w.heap.size + 1, 1, none⟩ = some (.int .u64 b') := fun d os => (blk_gr Qb.out d os).cell 1
  have kQb2 : ∀ d os, (Go.Sort.grow (redrawn w3 d) os).cell? ⟨w.heap.size + 1, 2, none⟩ = some (.int .u64 c') := fun d os => (blk_gr Qb.out d os).cell 2
  have kQb3 : ∀ d os, (Go.Sort.grow (redrawn w3 d) os).cell? ⟨w.heap.size + 1, 3, none⟩ = some (.string p') := fun d os => (blk_gr Qb.out d os).cell 3
  have kQb4 : ∀ d os, (Go.Sort.grow (redrawn w3 d) os).cell? ⟨w.heap.size + 1, 4, none⟩ = some (.string m') := fun d os => (blk_gr Qb.out d os).cell 4
  refine wp_region_quiet_below (by kernel_rfl) (by kernel_rfl) ?_
  repeat (go_big_quiet_step ((first | (go_at_call_of 27 (Value.string m'); exact C1.out _ _) | (go_at_call 30; exact C2.out _ _) | (go_at_call 31; exact C3.out _ _) | (go_at_call 27; exact C4.out _ _) | fail)))
  refine wpQuiet_nil ?_
  intro _ hw'
  obtain ⟨⟨dq, osq⟩, hw''⟩ := hw'
  subst hw''
  go_wp2_with fail
  go_ret
  exact ⟨rfl, bt B.out (below_regrown _ _ _)⟩

set_option maxHeartbeats 800000 in
set_option maxRecDepth 100000 in
theorem win_4 (o : Int) (a b c : Int) (p : ByteArray) (a' b' c' : Int) (p' m' : ByteArray) (w : World) (hp : p.size ≤ maxLen) (hp' : p'.size ≤ maxLen) (hm' : m'.size ≤ maxLen) (hv : Vars w) (f0 : decide (p.size ≤ 2147483647) = true) (f1 : fitB p' m' = true) (s0 : p.size ≤ 2147483647) (s1 : p'.size ≤ 2147483647 ∧ m'.size ≤ 2147483647) (f2 : (goodT 7 3 a b c p && verOk ⟨0, 0, 0, p', m'⟩) = true) (q1 : (a' == a) = true) (q2 : (a == 0) = false) (r : Bool) (hr1 : ∀ g h, OpIs 97 g h a' b' c' p' m' a b c p ByteArray.empty (opS (opM o)) ByteArray.empty (3 == 1) (decide (3 < 3)) (3 == 2) true r) (hr2 : ∀ g h, OpIs 104 g h a' b' c' p' m' a b c p ByteArray.empty (opS (opM o)) ByteArray.empty (3 == 1) (decide (3 < 3)) (3 == 2) true r) (hr3 : ∀ g h, OpIs 97 g h a b c p ByteArray.empty a b c p ByteArray.empty (opS (opM o)) ByteArray.empty (3 == 1) (decide (3 < 3)) (3 == 2) true true) :
    Calls Tryd.prog 8 #[.agg #[.int .i64 o, .int .i64 3, .int .u64 a, .int .u64 b, .int .u64 c, .string p], .agg (scells a' b' c' p' m')] w fun e w' => e = .returned (.bool true) ∧ Below w.heap.size w w' := by
  have B := hid (show Below w.heap.size w ((w.alloc (.cells #[.int .i64 o, .int .i64 3, .int .u64 a, .int .u64 b, .int .u64 c, .string p] 36)).alloc (.cells #[.int .u64 a', .int .u64 b', .int .u64 c', .string p', .string m'] 27)) by go_grown)
  have Z := hid (show w.heap.size + 2 ≤ ((w.alloc (.cells #[.int .i64 o, .int .i64 3, .int .u64 a, .int .u64 b, .int .u64 c, .string p] 36)).alloc (.cells #[.int .u64 a', .int .u64 b', .int .u64 c', .string p', .string m'] 27)).heap.size by simp only [World.size_alloc]; omega)
  obtain ⟨qa, qb⟩ := two_new w (#[.int .i64 o, .int .i64 3, .int .u64 a, .int .u64 b, .int .u64 c, .string p]) (#[.int .u64 a', .int .u64 b', .int .u64 c', .string p', .string m']) 36 27
  have Qa := hid qa
  have Qb := hid qb
  clear qa qb
  have HV := hid hv
  clear hv
  have HR1 := hid hr1
  clear hr1
  have HR2 := hid hr2
  clear hr2
  have HR3 := hid hr3
  clear hr3
  go_enter Tryd.func8, Tryd.ntmps8
  go_wp2_with fail
  go_at_call 25
  refine (fits13_any _ _ a b c p _ hp).mono ?_
  rintro e w1 ⟨rfl, hb⟩
  replace Qa := hid ((Qa.out).below hb)
  replace Qb := hid ((Qb.out).below hb)
  replace Z := hid (Nat.le_trans (Nat.le_trans Z.out (by first | exact Nat.le_refl _ | omega | (simp only [World.size_alloc, World.size_drew]; omega))) hb.size)
  replace B := hid (bt B.out hb)
  clear hb
  have xa0 : w1.cell? ⟨w.heap.size, 0, none⟩ = some (.int .i64 o) := Qa.out.cell 0
  have xa1 : w1.cell? ⟨w.heap.size, 1, none⟩ = some (.int .i64 3) := Qa.out.cell 1
  have xa2 : w1.cell? ⟨w.heap.size, 2, none⟩ = some (.int .u64 a) := Qa.out.cell 2
  have xa3 : w1.cell? ⟨w.heap.size, 3, none⟩ = some (.int .u64 b) := Qa.out.cell 3
  have xa4 : w1.cell? ⟨w.heap.size, 4, none⟩ = some (.int .u64 c) := Qa.out.cell 4
  have xa5 : w1.cell? ⟨w.heap.size, 5, none⟩ = some (.string p) := Qa.out.cell 5
  have xb0 : w1.cell? ⟨w.heap.size + 1, 0, none⟩ = some (.int .u64 a') := Qb.out.cell 0
  have xb1 : w1.cell? ⟨w.heap.size + 1, 1, none⟩ = some (.int .u64 b') := Qb.out.cell 1
  have xb2 : w1.cell? ⟨w.heap.size + 1, 2, none⟩ = some (.int .u64 c') := Qb.out.cell 2
  have xb3 : w1.cell? ⟨w.heap.size + 1, 3, none⟩ = some (.string p') := Qb.out.cell 3
  have xb4 : w1.cell? ⟨w.heap.size + 1, 4, none⟩ = some (.string m') := Qb.out.cell 4
  go_wp2_with fail
  go_at_call 17
  refine (fitB_any a' b' c' p' m' _ hp' hm').mono ?_
  rintro e w2 ⟨rfl, hb⟩
  replace Qa := hid ((Qa.out).below hb)
  replace Qb := hid ((Qb.out).below hb)
  replace Z := hid (Nat.le_trans (Nat.le_trans Z.out (by first | exact Nat.le_refl _ | omega | (simp only [World.size_alloc, World.size_drew]; omega))) hb.size)
  replace B := hid (bt B.out hb)
  clear hb
  have xa0 : w2.cell? ⟨w.heap.size, 0, none⟩ = some (.int .i64 o) := Qa.out.cell 0
  have xa1 : w2.cell? ⟨w.heap.size, 1, none⟩ = some (.int .i64 3) := Qa.out.cell 1
  have xa2 : w2.cell? ⟨w.heap.size, 2, none⟩ = some (.int .u64 a) := Qa.out.cell 2
  have xa3 : w2.cell? ⟨w.heap.size, 3, none⟩ = some (.int .u64 b) := Qa.out.cell 3
  have xa4 : w2.cell? ⟨w.heap.size, 4, none⟩ = some (.int .u64 c) := Qa.out.cell 4
  have xa5 : w2.cell? ⟨w.heap.size, 5, none⟩ = some (.string p) := Qa.out.cell 5
  have xb0 : w2.cell? ⟨w.heap.size + 1, 0, none⟩ = some (.int .u64 a') := Qb.out.cell 0
  have xb1 : w2.cell? ⟨w.heap.size + 1, 1, none⟩ = some (.int .u64 b') := Qb.out.cell 1
  have xb2 : w2.cell? ⟨w.heap.size + 1, 2, none⟩ = some (.int .u64 c') := Qb.out.cell 2
  have xb3 : w2.cell? ⟨w.heap.size + 1, 3, none⟩ = some (.string p') := Qb.out.cell 3
  have xb4 : w2.cell? ⟨w.heap.size + 1, 4, none⟩ = some (.string m') := Qb.out.cell 4
  go_wp2_with fail
  go_at_call 26
  refine (asked_7 o 3 a b c p a' b' c' p' m' _ s0 s1).mono ?_
  rintro e w3 ⟨rfl, hb⟩
  replace Qa := hid ((Qa.out).below hb)
  replace Qb := hid ((Qb.out).below hb)
  replace Z := hid (Nat.le_trans (Nat.le_trans Z.out (by first | exact Nat.le_refl _ | omega | (simp only [World.size_alloc, World.size_drew]; omega))) hb.size)
  replace B := hid (bt B.out hb)
  clear hb
  have xa0 : w3.cell? ⟨w.heap.size, 0, none⟩ = some (.int .i64 o) := Qa.out.cell 0
  have xa1 : w3.cell? ⟨w.heap.size, 1, none⟩ = some (.int .i64 3) := Qa.out.cell 1
  have xa2 : w3.cell? ⟨w.heap.size, 2, none⟩ = some (.int .u64 a) := Qa.out.cell 2
  have xa3 : w3.cell? ⟨w.heap.size, 3, none⟩ = some (.int .u64 b) := Qa.out.cell 3
  have xa4 : w3.cell? ⟨w.heap.size, 4, none⟩ = some (.int .u64 c) := Qa.out.cell 4
  have xa5 : w3.cell? ⟨w.heap.size, 5, none⟩ = some (.string p) := Qa.out.cell 5
  have xb0 : w3.cell? ⟨w.heap.size + 1, 0, none⟩ = some (.int .u64 a') := Qb.out.cell 0
  have xb1 : w3.cell? ⟨w.heap.size + 1, 1, none⟩ = some (.int .u64 b') := Qb.out.cell 1
  have xb2 : w3.cell? ⟨w.heap.size + 1, 2, none⟩ = some (.int .u64 c') := Qb.out.cell 2
  have xb3 : w3.cell? ⟨w.heap.size + 1, 3, none⟩ = some (.string p') := Qb.out.cell 3
  have xb4 : w3.cell? ⟨w.heap.size + 1, 4, none⟩ = some (.string m') := Qb.out.cell 4
  go_wp2_with fail
  have C1 := hid (fun d os => Calls.regrown_of (caretHoldsM o 3 (by omega) a' b' c' p' m' a b c p true _ (Go.Sort.grow (redrawn w3 d) os) (HV.out.below (bt B.out (below_regrown w3 d os))) HR1.out))
  have C2 := hid (fun d os => Calls.regrown_of (leastHoldsM o 3 (by omega) a' b' c' p' m' a b c p true _ (Go.Sort.grow (redrawn w3 d) os) (HV.out.below (bt B.out (below_regrown w3 d os))) HR2.out))
  have C3 := hid (fun d os => Calls.regrown_of (leastV_any o 3 a b c p (Go.Sort.grow (redrawn w3 d) os)))
  have C4 := hid (fun d os => Calls.regrown_of (caretHoldsM o 3 (by omega) a b c p ByteArray.empty a b c p true _ (Go.Sort.grow (redrawn w3 d) os) (HV.out.below (bt B.out (below_regrown w3 d os))) HR3.out))
  have kQa0 : ∀ d os, (Go.Sort.grow (redrawn w3 d) os).cell? ⟨w.heap.size, 0, none⟩ = some (.int .i64 o) := fun d os => (blk_gr Qa.out d os).cell 0
  have kQa1 : ∀ d os, (Go.Sort.grow (redrawn w3 d) os).cell? ⟨w.heap.size, 1, none⟩ = some (.int .i64 3) := fun d os => (blk_gr Qa.out d os).cell 1
  have kQa2 : ∀ d os, (Go.Sort.grow (redrawn w3 d) os).cell? ⟨w.heap.size, 2, none⟩ = some (.int .u64 a) := fun d os => (blk_gr Qa.out d os).cell 2
  have kQa3 : ∀ d os, (Go.Sort.grow (redrawn w3 d) os).cell? ⟨w.heap.size, 3, none⟩ = some (.int .u64 b) := fun d os => (blk_gr Qa.out d os).cell 3
  have kQa4 : ∀ d os, (Go.Sort.grow (redrawn w3 d) os).cell? ⟨w.heap.size, 4, none⟩ = some (.int .u64 c) := fun d os => (blk_gr Qa.out d os).cell 4
  have kQa5 : ∀ d os, (Go.Sort.grow (redrawn w3 d) os).cell? ⟨w.heap.size, 5, none⟩ = some (.string p) := fun d os => (blk_gr Qa.out d os).cell 5
  have kQb0 : ∀ d os, (Go.Sort.grow (redrawn w3 d) os).cell? ⟨w.heap.size + 1, 0, none⟩ = some (.int .u64 a') := fun d os => (blk_gr Qb.out d os).cell 0
  have kQb1 : ∀ d os, (Go.Sort.grow (redrawn w3 d) os).cell? ⟨w.heap.size + 1, 1, none⟩ = some (.int .u64 b') := fun d os => (blk_gr Qb.out d os).cell 1
  have kQb2 : ∀ d os, (Go.Sort.grow (redrawn w3 d) os).cell? ⟨w.heap.size + 1, 2, none⟩ = some (.int .u64 c') := fun d os => (blk_gr Qb.out d os).cell 2
  have kQb3 : ∀ d os, (Go.Sort.grow (redrawn w3 d) os).cell? ⟨w.heap.size + 1, 3, none⟩ = some (.string p') := fun d os => (blk_gr Qb.out d os).cell 3
  have kQb4 : ∀ d os, (Go.Sort.grow (redrawn w3 d) os).cell? ⟨w.heap.size + 1, 4, none⟩ = some (.string m') := fun d os => (blk_gr Qb.out d os).cell 4
  refine wp_region_quiet_below (by kernel_rfl) (by kernel_rfl) ?_
  repeat (go_big_quiet_step ((first | (go_at_call_of 27 (Value.string m'); exact C1.out _ _) | (go_at_call 30; exact C2.out _ _) | (go_at_call 31; exact C3.out _ _) | (go_at_call 27; exact C4.out _ _) | fail)))
  refine wpQuiet_nil ?_
  intro _ hw'
  obtain ⟨⟨dq, osq⟩, hw''⟩ := hw'
  subst hw''
  go_wp2_with fail
  go_ret
  exact ⟨rfl, bt B.out (below_regrown _ _ _)⟩

set_option maxHeartbeats 800000 in
set_option maxRecDepth 100000 in
theorem win_5 (o : Int) (a b c : Int) (p : ByteArray) (a' b' c' : Int) (p' m' : ByteArray) (w : World) (hp : p.size ≤ maxLen) (hp' : p'.size ≤ maxLen) (hm' : m'.size ≤ maxLen) (hv : Vars w) (f0 : decide (p.size ≤ 2147483647) = true) (f1 : fitB p' m' = true) (s0 : p.size ≤ 2147483647) (s1 : p'.size ≤ 2147483647 ∧ m'.size ≤ 2147483647) (f2 : (goodT 7 3 a b c p && verOk ⟨0, 0, 0, p', m'⟩) = true) (q1 : (a' == a) = true) (q2 : (a == 0) = true) (q4 : (b' == b) = false) (q3 : (b == 0) = false) (r : Bool) (hr1 : ∀ g h, OpIs 97 g h a' b' c' p' m' a b c p ByteArray.empty (opS (opM o)) ByteArray.empty (3 == 1) (decide (3 < 3)) (3 == 2) true false) (hr2 : ∀ g h, OpIs 104 g h a' b' c' p' m' a b c p ByteArray.empty (opS (opM o)) ByteArray.empty (3 == 1) (decide (3 < 3)) (3 == 2) true r) (hr3 : ∀ g h, OpIs 97 g h a b c p ByteArray.empty a b c p ByteArray.empty (opS (opM o)) ByteArray.empty (3 == 1) (decide (3 < 3)) (3 == 2) true true) :
    Calls Tryd.prog 8 #[.agg #[.int .i64 o, .int .i64 3, .int .u64 a, .int .u64 b, .int .u64 c, .string p], .agg (scells a' b' c' p' m')] w fun e w' => e = .returned (.bool true) ∧ Below w.heap.size w w' := by
  have B := hid (show Below w.heap.size w ((w.alloc (.cells #[.int .i64 o, .int .i64 3, .int .u64 a, .int .u64 b, .int .u64 c, .string p] 36)).alloc (.cells #[.int .u64 a', .int .u64 b', .int .u64 c', .string p', .string m'] 27)) by go_grown)
  have Z := hid (show w.heap.size + 2 ≤ ((w.alloc (.cells #[.int .i64 o, .int .i64 3, .int .u64 a, .int .u64 b, .int .u64 c, .string p] 36)).alloc (.cells #[.int .u64 a', .int .u64 b', .int .u64 c', .string p', .string m'] 27)).heap.size by simp only [World.size_alloc]; omega)
  obtain ⟨qa, qb⟩ := two_new w (#[.int .i64 o, .int .i64 3, .int .u64 a, .int .u64 b, .int .u64 c, .string p]) (#[.int .u64 a', .int .u64 b', .int .u64 c', .string p', .string m']) 36 27
  have Qa := hid qa
  have Qb := hid qb
  clear qa qb
  have HV := hid hv
  clear hv
  have HR1 := hid hr1
  clear hr1
  have HR2 := hid hr2
  clear hr2
  have HR3 := hid hr3
  clear hr3
  go_enter Tryd.func8, Tryd.ntmps8
  go_wp2_with fail
  go_at_call 25
  refine (fits13_any _ _ a b c p _ hp).mono ?_
  rintro e w1 ⟨rfl, hb⟩
  replace Qa := hid ((Qa.out).below hb)
  replace Qb := hid ((Qb.out).below hb)
  replace Z := hid (Nat.le_trans (Nat.le_trans Z.out (by first | exact Nat.le_refl _ | omega | (simp only [World.size_alloc, World.size_drew]; omega))) hb.size)
  replace B := hid (bt B.out hb)
  clear hb
  have xa0 : w1.cell? ⟨w.heap.size, 0, none⟩ = some (.int .i64 o) := Qa.out.cell 0
  have xa1 : w1.cell? ⟨w.heap.size, 1, none⟩ = some (.int .i64 3) := Qa.out.cell 1
  have xa2 : w1.cell? ⟨w.heap.size, 2, none⟩ = some (.int .u64 a) := Qa.out.cell 2
  have xa3 : w1.cell? ⟨w.heap.size, 3, none⟩ = some (.int .u64 b) := Qa.out.cell 3
  have xa4 : w1.cell? ⟨w.heap.size, 4, none⟩ = some (.int .u64 c) := Qa.out.cell 4
  have xa5 : w1.cell? ⟨w.heap.size, 5, none⟩ = some (.string p) := Qa.out.cell 5
  have xb0 : w1.cell? ⟨w.heap.size + 1, 0, none⟩ = some (.int .u64 a') := Qb.out.cell 0
  have xb1 : w1.cell? ⟨w.heap.size + 1, 1, none⟩ = some (.int .u64 b') := Qb.out.cell 1
  have xb2 : w1.cell? ⟨w.heap.size + 1, 2, none⟩ = some (.int .u64 c') := Qb.out.cell 2
  have xb3 : w1.cell? ⟨w.heap.size + 1, 3, none⟩ = some (.string p') := Qb.out.cell 3
  have xb4 : w1.cell? ⟨w.heap.size + 1, 4, none⟩ = some (.string m') := Qb.out.cell 4
  go_wp2_with fail
  go_at_call 17
  refine (fitB_any a' b' c' p' m' _ hp' hm').mono ?_
  rintro e w2 ⟨rfl, hb⟩
  replace Qa := hid ((Qa.out).below hb)
  replace Qb := hid ((Qb.out).below hb)
  replace Z := hid (Nat.le_trans (Nat.le_trans Z.out (by first | exact Nat.le_refl _ | omega | (simp only [World.size_alloc, World.size_drew]; omega))) hb.size)
  replace B := hid (bt B.out hb)
  clear hb
  have xa0 : w2.cell? ⟨w.heap.size, 0, none⟩ = some (.int .i64 o) := Qa.out.cell 0
  have xa1 : w2.cell? ⟨w.heap.size, 1, none⟩ = some (.int .i64 3) := Qa.out.cell 1
  have xa2 : w2.cell? ⟨w.heap.size, 2, none⟩ = some (.int .u64 a) := Qa.out.cell 2
  have xa3 : w2.cell? ⟨w.heap.size, 3, none⟩ = some (.int .u64 b) := Qa.out.cell 3
  have xa4 : w2.cell? ⟨w.heap.size, 4, none⟩ = some (.int .u64 c) := Qa.out.cell 4
  have xa5 : w2.cell? ⟨w.heap.size, 5, none⟩ = some (.string p) := Qa.out.cell 5
  have xb0 : w2.cell? ⟨w.heap.size + 1, 0, none⟩ = some (.int .u64 a') := Qb.out.cell 0
  have xb1 : w2.cell? ⟨w.heap.size + 1, 1, none⟩ = some (.int .u64 b') := Qb.out.cell 1
  have xb2 : w2.cell? ⟨w.heap.size + 1, 2, none⟩ = some (.int .u64 c') := Qb.out.cell 2
  have xb3 : w2.cell? ⟨w.heap.size + 1, 3, none⟩ = some (.string p') := Qb.out.cell 3
  have xb4 : w2.cell? ⟨w.heap.size + 1, 4, none⟩ = some (.string m') := Qb.out.cell 4
  go_wp2_with fail
  go_at_call 26
  refine (asked_7 o 3 a b c p a' b' c' p' m' _ s0 s1).mono ?_
  rintro e w3 ⟨rfl, hb⟩
  replace Qa := hid ((Qa.out).below hb)
  replace Qb := hid ((Qb.out).below hb)
  replace Z := hid (Nat.le_trans (Nat.le_trans Z.out (by first | exact Nat.le_refl _ | omega | (simp only [World.size_alloc, World.size_drew]; omega))) hb.size)
  replace B := hid (bt B.out hb)
  clear hb
  have xa0 : w3.cell? ⟨w.heap.size, 0, none⟩ = some (.int .i64 o) := Qa.out.cell 0
  have xa1 : w3.cell? ⟨w.heap.size, 1, none⟩ = some (.int .i64 3) := Qa.out.cell 1
  have xa2 : w3.cell? ⟨w.heap.size, 2, none⟩ = some (.int .u64 a) := Qa.out.cell 2
  have xa3 : w3.cell? ⟨w.heap.size, 3, none⟩ = some (.int .u64 b) := Qa.out.cell 3
  have xa4 : w3.cell? ⟨w.heap.size, 4, none⟩ = some (.int .u64 c) := Qa.out.cell 4
  have xa5 : w3.cell? ⟨w.heap.size, 5, none⟩ = some (.string p) := Qa.out.cell 5
  have xb0 : w3.cell? ⟨w.heap.size + 1, 0, none⟩ = some (.int .u64 a') := Qb.out.cell 0
  have xb1 : w3.cell? ⟨w.heap.size + 1, 1, none⟩ = some (.int .u64 b') := Qb.out.cell 1
  have xb2 : w3.cell? ⟨w.heap.size + 1, 2, none⟩ = some (.int .u64 c') := Qb.out.cell 2
  have xb3 : w3.cell? ⟨w.heap.size + 1, 3, none⟩ = some (.string p') := Qb.out.cell 3
  have xb4 : w3.cell? ⟨w.heap.size + 1, 4, none⟩ = some (.string m') := Qb.out.cell 4
  go_wp2_with fail
  have C1 := hid (fun d os => Calls.regrown_of (caretHoldsM o 3 (by omega) a' b' c' p' m' a b c p true _ (Go.Sort.grow (redrawn w3 d) os) (HV.out.below (bt B.out (below_regrown w3 d os))) HR1.out))
  have C2 := hid (fun d os => Calls.regrown_of (leastHoldsM o 3 (by omega) a' b' c' p' m' a b c p true _ (Go.Sort.grow (redrawn w3 d) os) (HV.out.below (bt B.out (below_regrown w3 d os))) HR2.out))
  have C3 := hid (fun d os => Calls.regrown_of (leastV_any o 3 a b c p (Go.Sort.grow (redrawn w3 d) os)))
  have C4 := hid (fun d os => Calls.regrown_of (caretHoldsM o 3 (by omega) a b c p ByteArray.empty a b c p true _ (Go.Sort.grow (redrawn w3 d) os) (HV.out.below (bt B.out (below_regrown w3 d os))) HR3.out))
  have kQa0 : ∀ d os, (Go.Sort.grow (redrawn w3 d) os).cell? ⟨w.heap.size, 0, none⟩ = some (.int .i64 o) := fun d os => (blk_gr Qa.out d os).cell 0
  have kQa1 : ∀ d os, (Go.Sort.grow (redrawn w3 d) os).cell? ⟨w.heap.size, 1, none⟩ = some (.int .i64 3) := fun d os => (blk_gr Qa.out d os).cell 1
  have kQa2 : ∀ d os, (Go.Sort.grow (redrawn w3 d) os).cell? ⟨w.heap.size, 2, none⟩ = some (.int .u64 a) := fun d os => (blk_gr Qa.out d os).cell 2
  have kQa3 : ∀ d os, (Go.Sort.grow (redrawn w3 d) os).cell? ⟨w.heap.size, 3, none⟩ = some (.int .u64 b) := fun d os => (blk_gr Qa.out d os).cell 3
  have kQa4 : ∀ d os, (Go.Sort.grow (redrawn w3 d) os).cell? ⟨w.heap.size, 4, none⟩ = some (.int .u64 c) := fun d os => (blk_gr Qa.out d os).cell 4
  have kQa5 : ∀ d os, (Go.Sort.grow (redrawn w3 d) os).cell? ⟨w.heap.size, 5, none⟩ = some (.string p) := fun d os => (blk_gr Qa.out d os).cell 5
  have kQb0 : ∀ d os, (Go.Sort.grow (redrawn w3 d) os).cell? ⟨w.heap.size + 1, 0, none⟩ = some (.int .u64 a') := fun d os => (blk_gr Qb.out d os).cell 0
  have kQb1 : ∀ d os, (Go.Sort.grow (redrawn w3 d) os).cell? ⟨w.heap.size + 1, 1, none⟩ = some (.int .u64 b') := fun d os => (blk_gr Qb.out d os).cell 1
  have kQb2 : ∀ d os, (Go.Sort.grow (redrawn w3 d) os).cell? ⟨w.heap.size + 1, 2, none⟩ = some (.int .u64 c') := fun d os => (blk_gr Qb.out d os).cell 2
  have kQb3 : ∀ d os, (Go.Sort.grow (redrawn w3 d) os).cell? ⟨w.heap.size + 1, 3, none⟩ = some (.string p') := fun d os => (blk_gr Qb.out d os).cell 3
  have kQb4 : ∀ d os, (Go.Sort.grow (redrawn w3 d) os).cell? ⟨w.heap.size + 1, 4, none⟩ = some (.string m') := fun d os => (blk_gr Qb.out d os).cell 4
  refine wp_region_quiet_below (by kernel_rfl) (by kernel_rfl) ?_
  repeat (go_big_quiet_step ((first | (go_at_call_of 27 (Value.string m'); exact C1.out _ _) | (go_at_call 30; exact C2.out _ _) | (go_at_call 31; exact C3.out _ _) | (go_at_call 27; exact C4.out _ _) | fail)))
  refine wpQuiet_nil ?_
  intro _ hw'
  obtain ⟨⟨dq, osq⟩, hw''⟩ := hw'
  subst hw''
  go_wp2_with fail
  go_ret
  exact ⟨rfl, bt B.out (below_regrown _ _ _)⟩

set_option maxHeartbeats 800000 in
set_option maxRecDepth 100000 in
theorem win_6 (o : Int) (a b c : Int) (p : ByteArray) (a' b' c' : Int) (p' m' : ByteArray) (w : World) (hp : p.size ≤ maxLen) (hp' : p'.size ≤ maxLen) (hm' : m'.size ≤ maxLen) (hv : Vars w) (f0 : decide (p.size ≤ 2147483647) = true) (f1 : fitB p' m' = true) (s0 : p.size ≤ 2147483647) (s1 : p'.size ≤ 2147483647 ∧ m'.size ≤ 2147483647) (f2 : (goodT 7 3 a b c p && verOk ⟨0, 0, 0, p', m'⟩) = true) (q1 : (a' == a) = true) (q2 : (a == 0) = true) (q4 : (b' == b) = false) (q3 : (b == 0) = true) (r : Bool) (hr1 : ∀ g h, OpIs 97 g h a' b' c' p' m' a b c p ByteArray.empty (opS (opM o)) ByteArray.empty (3 == 1) (decide (3 < 3)) (3 == 2) true false) (hr2 : ∀ g h, OpIs 104 g h a' b' c' p' m' a b c p ByteArray.empty (opS (opM o)) ByteArray.empty (3 == 1) (decide (3 < 3)) (3 == 2) true r) (hr3 : ∀ g h, OpIs 97 g h a b c p ByteArray.empty a b c p ByteArray.empty (opS (opM o)) ByteArray.empty (3 == 1) (decide (3 < 3)) (3 == 2) true true) :
    Calls Tryd.prog 8 #[.agg #[.int .i64 o, .int .i64 3, .int .u64 a, .int .u64 b, .int .u64 c, .string p], .agg (scells a' b' c' p' m')] w fun e w' => e = .returned (.bool true) ∧ Below w.heap.size w w' := by
  have B := hid (show Below w.heap.size w ((w.alloc (.cells #[.int .i64 o, .int .i64 3, .int .u64 a, .int .u64 b, .int .u64 c, .string p] 36)).alloc (.cells #[.int .u64 a', .int .u64 b', .int .u64 c', .string p', .string m'] 27)) by go_grown)
  have Z := hid (show w.heap.size + 2 ≤ ((w.alloc (.cells #[.int .i64 o, .int .i64 3, .int .u64 a, .int .u64 b, .int .u64 c, .string p] 36)).alloc (.cells #[.int .u64 a', .int .u64 b', .int .u64 c', .string p', .string m'] 27)).heap.size by simp only [World.size_alloc]; omega)
  obtain ⟨qa, qb⟩ := two_new w (#[.int .i64 o, .int .i64 3, .int .u64 a, .int .u64 b, .int .u64 c, .string p]) (#[.int .u64 a', .int .u64 b', .int .u64 c', .string p', .string m']) 36 27
  have Qa := hid qa
  have Qb := hid qb
  clear qa qb
  have HV := hid hv
  clear hv
  have HR1 := hid hr1
  clear hr1
  have HR2 := hid hr2
  clear hr2
  have HR3 := hid hr3
  clear hr3
  go_enter Tryd.func8, Tryd.ntmps8
  go_wp2_with fail
  go_at_call 25
  refine (fits13_any _ _ a b c p _ hp).mono ?_
  rintro e w1 ⟨rfl, hb⟩
  replace Qa := hid ((Qa.out).below hb)
  replace Qb := hid ((Qb.out).below hb)
  replace Z := hid (Nat.le_trans (Nat.le_trans Z.out (by first | exact Nat.le_refl _ | omega | (simp only [World.size_alloc, World.size_drew]; omega))) hb.size)
  replace B := hid (bt B.out hb)
  clear hb
  have xa0 : w1.cell? ⟨w.heap.size, 0, none⟩ = some (.int .i64 o) := Qa.out.cell 0
  have xa1 : w1.cell? ⟨w.heap.size, 1, none⟩ = some (.int .i64 3) := Qa.out.cell 1
  have xa2 : w1.cell? ⟨w.heap.size, 2, none⟩ = some (.int .u64 a) := Qa.out.cell 2
  have xa3 : w1.cell? ⟨w.heap.size, 3, none⟩ = some (.int .u64 b) := Qa.out.cell 3
  have xa4 : w1.cell? ⟨w.heap.size, 4, none⟩ = some (.int .u64 c) := Qa.out.cell 4
  have xa5 : w1.cell? ⟨w.heap.size, 5, none⟩ = some (.string p) := Qa.out.cell 5
  have xb0 : w1.cell? ⟨w.heap.size + 1, 0, none⟩ = some (.int .u64 a') := Qb.out.cell 0
  have xb1 : w1.cell? ⟨w.heap.size + 1, 1, none⟩ = some (.int .u64 b') := Qb.out.cell 1
  have xb2 : w1.cell? ⟨w.heap.size + 1, 2, none⟩ = some (.int .u64 c') := Qb.out.cell 2
  have xb3 : w1.cell? ⟨w.heap.size + 1, 3, none⟩ = some (.string p') := Qb.out.cell 3
  have xb4 : w1.cell? ⟨w.heap.size + 1, 4, none⟩ = some (.string m') := Qb.out.cell 4
  go_wp2_with fail
  go_at_call 17
  refine (fitB_any a' b' c' p' m' _ hp' hm').mono ?_
  rintro e w2 ⟨rfl, hb⟩
  replace Qa := hid ((Qa.out).below hb)
  replace Qb := hid ((Qb.out).below hb)
  replace Z := hid (Nat.le_trans (Nat.le_trans Z.out (by first | exact Nat.le_refl _ | omega | (simp only [World.size_alloc, World.size_drew]; omega))) hb.size)
  replace B := hid (bt B.out hb)
  clear hb
  have xa0 : w2.cell? ⟨w.heap.size, 0, none⟩ = some (.int .i64 o) := Qa.out.cell 0
  have xa1 : w2.cell? ⟨w.heap.size, 1, none⟩ = some (.int .i64 3) := Qa.out.cell 1
  have xa2 : w2.cell? ⟨w.heap.size, 2, none⟩ = some (.int .u64 a) := Qa.out.cell 2
  have xa3 : w2.cell? ⟨w.heap.size, 3, none⟩ = some (.int .u64 b) := Qa.out.cell 3
  have xa4 : w2.cell? ⟨w.heap.size, 4, none⟩ = some (.int .u64 c) := Qa.out.cell 4
  have xa5 : w2.cell? ⟨w.heap.size, 5, none⟩ = some (.string p) := Qa.out.cell 5
  have xb0 : w2.cell? ⟨w.heap.size + 1, 0, none⟩ = some (.int .u64 a') := Qb.out.cell 0
  have xb1 : w2.cell? ⟨w.heap.size + 1, 1, none⟩ = some (.int .u64 b') := Qb.out.cell 1
  have xb2 : w2.cell? ⟨w.heap.size + 1, 2, none⟩ = some (.int .u64 c') := Qb.out.cell 2
  have xb3 : w2.cell? ⟨w.heap.size + 1, 3, none⟩ = some (.string p') := Qb.out.cell 3
  have xb4 : w2.cell? ⟨w.heap.size + 1, 4, none⟩ = some (.string m') := Qb.out.cell 4
  go_wp2_with fail
  go_at_call 26
  refine (asked_7 o 3 a b c p a' b' c' p' m' _ s0 s1).mono ?_
  rintro e w3 ⟨rfl, hb⟩
  replace Qa := hid ((Qa.out).below hb)
  replace Qb := hid ((Qb.out).below hb)
  replace Z := hid (Nat.le_trans (Nat.le_trans Z.out (by first | exact Nat.le_refl _ | omega | (simp only [World.size_alloc, World.size_drew]; omega))) hb.size)
  replace B := hid (bt B.out hb)
  clear hb
  have xa0 : w3.cell? ⟨w.heap.size, 0, none⟩ = some (.int .i64 o) := Qa.out.cell 0
  have xa1 : w3.cell? ⟨w.heap.size, 1, none⟩ = some (.int .i64 3) := Qa.out.cell 1
  have xa2 : w3.cell? ⟨w.heap.size, 2, none⟩ = some (.int .u64 a) := Qa.out.cell 2
  have xa3 : w3.cell? ⟨w.heap.size, 3, none⟩ = some (.int .u64 b) := Qa.out.cell 3
  have xa4 : w3.cell? ⟨w.heap.size, 4, none⟩ = some (.int .u64 c) := Qa.out.cell 4
  have xa5 : w3.cell? ⟨w.heap.size, 5, none⟩ = some (.string p) := Qa.out.cell 5
  have xb0 : w3.cell? ⟨w.heap.size + 1, 0, none⟩ = some (.int .u64 a') := Qb.out.cell 0
  have xb1 : w3.cell? ⟨w.heap.size + 1, 1, none⟩ = some (.int .u64 b') := Qb.out.cell 1
  have xb2 : w3.cell? ⟨w.heap.size + 1, 2, none⟩ = some (.int .u64 c') := Qb.out.cell 2
  have xb3 : w3.cell? ⟨w.heap.size + 1, 3, none⟩ = some (.string p') := Qb.out.cell 3
  have xb4 : w3.cell? ⟨w.heap.size + 1, 4, none⟩ = some (.string m') := Qb.out.cell 4
  go_wp2_with fail
  have C1 := hid (fun d os => Calls.regrown_of (caretHoldsM o 3 (by omega) a' b' c' p' m' a b c p true _ (Go.Sort.grow (redrawn w3 d) os) (HV.out.below (bt B.out (below_regrown w3 d os))) HR1.out))
  have C2 := hid (fun d os => Calls.regrown_of (leastHoldsM o 3 (by omega) a' b' c' p' m' a b c p true _ (Go.Sort.grow (redrawn w3 d) os) (HV.out.below (bt B.out (below_regrown w3 d os))) HR2.out))
  have C3 := hid (fun d os => Calls.regrown_of (leastV_any o 3 a b c p (Go.Sort.grow (redrawn w3 d) os)))
  have C4 := hid (fun d os => Calls.regrown_of (caretHoldsM o 3 (by omega) a b c p ByteArray.empty a b c p true _ (Go.Sort.grow (redrawn w3 d) os) (HV.out.below (bt B.out (below_regrown w3 d os))) HR3.out))
  have kQa0 : ∀ d os, (Go.Sort.grow (redrawn w3 d) os).cell? ⟨w.heap.size, 0, none⟩ = some (.int .i64 o) := fun d os => (blk_gr Qa.out d os).cell 0
  have kQa1 : ∀ d os, (Go.Sort.grow (redrawn w3 d) os).cell? ⟨w.heap.size, 1, none⟩ = some (.int .i64 3) := fun d os => (blk_gr Qa.out d os).cell 1
  have kQa2 : ∀ d os, (Go.Sort.grow (redrawn w3 d) os).cell? ⟨w.heap.size, 2, none⟩ = some (.int .u64 a) := fun d os => (blk_gr Qa.out d os).cell 2
  have kQa3 : ∀ d os, (Go.Sort.grow (redrawn w3 d) os).cell? ⟨w.heap.size, 3, none⟩ = some (.int .u64 b) := fun d os => (blk_gr Qa.out d os).cell 3
  have kQa4 : ∀ d os, (Go.Sort.grow (redrawn w3 d) os).cell? ⟨w.heap.size, 4, none⟩ = some (.int .u64 c) := fun d os => (blk_gr Qa.out d os).cell 4
  have kQa5 : ∀ d os, (Go.Sort.grow (redrawn w3 d) os).cell? ⟨w.heap.size, 5, none⟩ = some (.string p) := fun d os => (blk_gr Qa.out d os).cell 5
  have kQb0 : ∀ d os, (Go.Sort.grow (redrawn w3 d) os).cell? ⟨w.heap.size + 1, 0, none⟩ = some (.int .u64 a') := fun d os => (blk_gr Qb.out d os).cell 0
  have kQb1 : ∀ d os, (Go.Sort.grow (redrawn w3 d) os).cell? ⟨w.heap.size + 1, 1, none⟩ = some (.int .u64 b') := fun d os => (blk_gr Qb.out d os).cell 1
  have kQb2 : ∀ d os, (Go.Sort.grow (redrawn w3 d) os).cell? ⟨w.heap.size + 1, 2, none⟩ = some (.int .u64 c') := fun d os => (blk_gr Qb.out d os).cell 2
  have kQb3 : ∀ d os, (Go.Sort.grow (redrawn w3 d) os).cell? ⟨w.heap.size + 1, 3, none⟩ = some (.string p') := fun d os => (blk_gr Qb.out d os).cell 3
  have kQb4 : ∀ d os, (Go.Sort.grow (redrawn w3 d) os).cell? ⟨w.heap.size + 1, 4, none⟩ = some (.string m') := fun d os => (blk_gr Qb.out d os).cell 4
  refine wp_region_quiet_below (by kernel_rfl) (by kernel_rfl) ?_
  repeat (go_big_quiet_step ((first | (go_at_call_of 27 (Value.string m'); exact C1.out _ _) | (go_at_call 30; exact C2.out _ _) | (go_at_call 31; exact C3.out _ _) | (go_at_call 27; exact C4.out _ _) | fail)))
  refine wpQuiet_nil ?_
  intro _ hw'
  obtain ⟨⟨dq, osq⟩, hw''⟩ := hw'
  subst hw''
  go_wp2_with fail
  go_ret
  exact ⟨rfl, bt B.out (below_regrown _ _ _)⟩

set_option maxHeartbeats 800000 in
set_option maxRecDepth 100000 in
theorem win_7 (o : Int) (a b c : Int) (p : ByteArray) (a' b' c' : Int) (p' m' : ByteArray) (w : World) (hp : p.size ≤ maxLen) (hp' : p'.size ≤ maxLen) (hm' : m'.size ≤ maxLen) (hv : Vars w) (f0 : decide (p.size ≤ 2147483647) = true) (f1 : fitB p' m' = true) (s0 : p.size ≤ 2147483647) (s1 : p'.size ≤ 2147483647 ∧ m'.size ≤ 2147483647) (f2 : (goodT 7 3 a b c p && verOk ⟨0, 0, 0, p', m'⟩) = true) (q1 : (a' == a) = true) (q2 : (a == 0) = true) (q4 : (b' == b) = true) (q3 : (b == 0) = false) (r : Bool) (hr1 : ∀ g h, OpIs 97 g h a' b' c' p' m' a b c p ByteArray.empty (opS (opM o)) ByteArray.empty (3 == 1) (decide (3 < 3)) (3 == 2) true r) (hr2 : ∀ g h, OpIs 104 g h a' b' c' p' m' a b c p ByteArray.empty (opS (opM o)) ByteArray.empty (3 == 1) (decide (3 < 3)) (3 == 2) true r) (hr3 : ∀ g h, OpIs 97 g h a b c p ByteArray.empty a b c p ByteArray.empty (opS (opM o)) ByteArray.empty (3 == 1) (decide (3 < 3)) (3 == 2) true true) :
    Calls Tryd.prog 8 #[.agg #[.int .i64 o, .int .i64 3, .int .u64 a, .int .u64 b, .int .u64 c, .string p], .agg (scells a' b' c' p' m')] w fun e w' => e = .returned (.bool true) ∧ Below w.heap.size w w' := by
  have B := hid (show Below w.heap.size w ((w.alloc (.cells #[.int .i64 o, .int .i64 3, .int .u64 a, .int .u64 b, .int .u64 c, .string p] 36)).alloc (.cells #[.int .u64 a', .int .u64 b', .int .u64 c', .string p', .string m'] 27)) by go_grown)
  have Z := hid (show w.heap.size + 2 ≤ ((w.alloc (.cells #[.int .i64 o, .int .i64 3, .int .u64 a, .int .u64 b, .int .u64 c, .string p] 36)).alloc (.cells #[.int .u64 a', .int .u64 b', .int .u64 c', .string p', .string m'] 27)).heap.size by simp only [World.size_alloc]; omega)
  obtain ⟨qa, qb⟩ := two_new w (#[.int .i64 o, .int .i64 3, .int .u64 a, .int .u64 b, .int .u64 c, .string p]) (#[.int .u64 a', .int .u64 b', .int .u64 c', .string p', .string m']) 36 27
  have Qa := hid qa
  have Qb := hid qb
  clear qa qb
  have HV := hid hv
  clear hv
  have HR1 := hid hr1
  clear hr1
  have HR2 := hid hr2
  clear hr2
  have HR3 := hid hr3
  clear hr3
  go_enter Tryd.func8, Tryd.ntmps8
  go_wp2_with fail
  go_at_call 25
  refine (fits13_any _ _ a b c p _ hp).mono ?_
  rintro e w1 ⟨rfl, hb⟩
  replace Qa := hid ((Qa.out).below hb)
  replace Qb := hid ((Qb.out).below hb)
  replace Z := hid (Nat.le_trans (Nat.le_trans Z.out (by first | exact Nat.le_refl _ | omega | (simp only [World.size_alloc, World.size_drew]; omega))) hb.size)
  replace B := hid (bt B.out hb)
  clear hb
  have xa0 : w1.cell? ⟨w.heap.size, 0, none⟩ = some (.int .i64 o) := Qa.out.cell 0
  have xa1 : w1.cell? ⟨w.heap.size, 1, none⟩ = some (.int .i64 3) := Qa.out.cell 1
  have xa2 : w1.cell? ⟨w.heap.size, 2, none⟩ = some (.int .u64 a) := Qa.out.cell 2
  have xa3 : w1.cell? ⟨w.heap.size, 3, none⟩ = some (.int .u64 b) := Qa.out.cell 3
  have xa4 : w1.cell? ⟨w.heap.size, 4, none⟩ = some (.int .u64 c) := Qa.out.cell 4
  have xa5 : w1.cell? ⟨w.heap.size, 5, none⟩ = some (.string p) := Qa.out.cell 5
  have xb0 : w1.cell? ⟨w.heap.size + 1, 0, none⟩ = some (.int .u64 a') := Qb.out.cell 0
  have xb1 : w1.cell? ⟨w.heap.size + 1, 1, none⟩ = some (.int .u64 b') := Qb.out.cell 1
  have xb2 : w1.cell? ⟨w.heap.size + 1, 2, none⟩ = some (.int .u64 c') := Qb.out.cell 2
  have xb3 : w1.cell? ⟨w.heap.size + 1, 3, none⟩ = some (.string p') := Qb.out.cell 3
  have xb4 : w1.cell? ⟨w.heap.size + 1, 4, none⟩ = some (.string m') := Qb.out.cell 4
  go_wp2_with fail
  go_at_call 17
  refine (fitB_any a' b' c' p' m' _ hp' hm').mono ?_
  rintro e w2 ⟨rfl, hb⟩
  replace Qa := hid ((Qa.out).below hb)
  replace Qb := hid ((Qb.out).below hb)
  replace Z := hid (Nat.le_trans (Nat.le_trans Z.out (by first | exact Nat.le_refl _ | omega | (simp only [World.size_alloc, World.size_drew]; omega))) hb.size)
  replace B := hid (bt B.out hb)
  clear hb
  have xa0 : w2.cell? ⟨w.heap.size, 0, none⟩ = some (.int .i64 o) := Qa.out.cell 0
  have xa1 : w2.cell? ⟨w.heap.size, 1, none⟩ = some (.int .i64 3) := Qa.out.cell 1
  have xa2 : w2.cell? ⟨w.heap.size, 2, none⟩ = some (.int .u64 a) := Qa.out.cell 2
  have xa3 : w2.cell? ⟨w.heap.size, 3, none⟩ = some (.int .u64 b) := Qa.out.cell 3
  have xa4 : w2.cell? ⟨w.heap.size, 4, none⟩ = some (.int .u64 c) := Qa.out.cell 4
  have xa5 : w2.cell? ⟨w.heap.size, 5, none⟩ = some (.string p) := Qa.out.cell 5
  have xb0 : w2.cell? ⟨w.heap.size + 1, 0, none⟩ = some (.int .u64 a') := Qb.out.cell 0
  have xb1 : w2.cell? ⟨w.heap.size + 1, 1, none⟩ = some (.int .u64 b') := Qb.out.cell 1
  have xb2 : w2.cell? ⟨w.heap.size + 1, 2, none⟩ = some (.int .u64 c') := Qb.out.cell 2
  have xb3 : w2.cell? ⟨w.heap.size + 1, 3, none⟩ = some (.string p') := Qb.out.cell 3
  have xb4 : w2.cell? ⟨w.heap.size + 1, 4, none⟩ = some (.string m') := Qb.out.cell 4
  go_wp2_with fail
  go_at_call 26
  refine (asked_7 o 3 a b c p a' b' c' p' m' _ s0 s1).mono ?_
  rintro e w3 ⟨rfl, hb⟩
  replace Qa := hid ((Qa.out).below hb)
  replace Qb := hid ((Qb.out).below hb)
  replace Z := hid (Nat.le_trans (Nat.le_trans Z.out (by first | exact Nat.le_refl _ | omega | (simp only [World.size_alloc, World.size_drew]; omega))) hb.size)
  replace B := hid (bt B.out hb)
  clear hb
  have xa0 : w3.cell? ⟨w.heap.size, 0, none⟩ = some (.int .i64 o) := Qa.out.cell 0
  have xa1 : w3.cell? ⟨w.heap.size, 1, none⟩ = some (.int .i64 3) := Qa.out.cell 1
  have xa2 : w3.cell? ⟨w.heap.size, 2, none⟩ = some (.int .u64 a) := Qa.out.cell 2
  have xa3 : w3.cell? ⟨w.heap.size, 3, none⟩ = some (.int .u64 b) := Qa.out.cell 3
  have xa4 : w3.cell? ⟨w.heap.size, 4, none⟩ = some (.int .u64 c) := Qa.out.cell 4
  have xa5 : w3.cell? ⟨w.heap.size, 5, none⟩ = some (.string p) := Qa.out.cell 5
  have xb0 : w3.cell? ⟨w.heap.size + 1, 0, none⟩ = some (.int .u64 a') := Qb.out.cell 0
  have xb1 : w3.cell? ⟨w.heap.size + 1, 1, none⟩ = some (.int .u64 b') := Qb.out.cell 1
  have xb2 : w3.cell? ⟨w.heap.size + 1, 2, none⟩ = some (.int .u64 c') := Qb.out.cell 2
  have xb3 : w3.cell? ⟨w.heap.size + 1, 3, none⟩ = some (.string p') := Qb.out.cell 3
  have xb4 : w3.cell? ⟨w.heap.size + 1, 4, none⟩ = some (.string m') := Qb.out.cell 4
  go_wp2_with fail
  have C1 := hid (fun d os => Calls.regrown_of (caretHoldsM o 3 (by omega) a' b' c' p' m' a b c p true _ (Go.Sort.grow (redrawn w3 d) os) (HV.out.below (bt B.out (below_regrown w3 d os))) HR1.out))
  have C2 := hid (fun d os => Calls.regrown_of (leastHoldsM o 3 (by omega) a' b' c' p' m' a b c p true _ (Go.Sort.grow (redrawn w3 d) os) (HV.out.below (bt B.out (below_regrown w3 d os))) HR2.out))
  have C3 := hid (fun d os => Calls.regrown_of (leastV_any o 3 a b c p (Go.Sort.grow (redrawn w3 d) os)))
  have C4 := hid (fun d os => Calls.regrown_of (caretHoldsM o 3 (by omega) a b c p ByteArray.empty a b c p true _ (Go.Sort.grow (redrawn w3 d) os) (HV.out.below (bt B.out (below_regrown w3 d os))) HR3.out))
  have kQa0 : ∀ d os, (Go.Sort.grow (redrawn w3 d) os).cell? ⟨w.heap.size, 0, none⟩ = some (.int .i64 o) := fun d os => (blk_gr Qa.out d os).cell 0
  have kQa1 : ∀ d os, (Go.Sort.grow (redrawn w3 d) os).cell? ⟨w.heap.size, 1, none⟩ = some (.int .i64 3) := fun d os => (blk_gr Qa.out d os).cell 1
  have kQa2 : ∀ d os, (Go.Sort.grow (redrawn w3 d) os).cell? ⟨w.heap.size, 2, none⟩ = some (.int .u64 a) := fun d os => (blk_gr Qa.out d os).cell 2
  have kQa3 : ∀ d os, (Go.Sort.grow (redrawn w3 d) os).cell? ⟨w.heap.size, 3, none⟩ = some (.int .u64 b) := fun d os => (blk_gr Qa.out d os).cell 3
  have kQa4 : ∀ d os, (Go.Sort.grow (redrawn w3 d) os).cell? ⟨w.heap.size, 4, none⟩ = some (.int .u64 c) := fun d os => (blk_gr Qa.out d os).cell 4
  have kQa5 : ∀ d os, (Go.Sort.grow (redrawn w3 d) os).cell? ⟨w.heap.size, 5, none⟩ = some (.string p) := fun d os => (blk_gr Qa.out d os).cell 5
  have kQb0 : ∀ d os, (Go.Sort.grow (redrawn w3 d) os).cell? ⟨w.heap.size + 1, 0, none⟩ = some (.int .u64 a') := fun d os => (blk_gr Qb.out d os).cell 0
  have kQb1 : ∀ d os, (Go.Sort.grow (redrawn w3 d) os).cell? ⟨w.heap.size + 1, 1, none⟩ = some (.int .u64 b') := fun d os => (blk_gr Qb.out d os).cell 1
  have kQb2 : ∀ d os, (Go.Sort.grow (redrawn w3 d) os).cell? ⟨w.heap.size + 1, 2, none⟩ = some (.int .u64 c') := fun d os => (blk_gr Qb.out d os).cell 2
  have kQb3 : ∀ d os, (Go.Sort.grow (redrawn w3 d) os).cell? ⟨w.heap.size + 1, 3, none⟩ = some (.string p') := fun d os => (blk_gr Qb.out d os).cell 3
  have kQb4 : ∀ d os, (Go.Sort.grow (redrawn w3 d) os).cell? ⟨w.heap.size + 1, 4, none⟩ = some (.string m') := fun d os => (blk_gr Qb.out d os).cell 4
  refine wp_region_quiet_below (by kernel_rfl) (by kernel_rfl) ?_
  repeat (go_big_quiet_step ((first | (go_at_call_of 27 (Value.string m'); exact C1.out _ _) | (go_at_call 30; exact C2.out _ _) | (go_at_call 31; exact C3.out _ _) | (go_at_call 27; exact C4.out _ _) | fail)))
  refine wpQuiet_nil ?_
  intro _ hw'
  obtain ⟨⟨dq, osq⟩, hw''⟩ := hw'
  subst hw''
  go_wp2_with fail
  go_ret
  exact ⟨rfl, bt B.out (below_regrown _ _ _)⟩

set_option maxHeartbeats 800000 in
set_option maxRecDepth 100000 in
theorem win_8 (o : Int) (a b c : Int) (p : ByteArray) (a' b' c' : Int) (p' m' : ByteArray) (w : World) (hp : p.size ≤ maxLen) (hp' : p'.size ≤ maxLen) (hm' : m'.size ≤ maxLen) (hv : Vars w) (f0 : decide (p.size ≤ 2147483647) = true) (f1 : fitB p' m' = true) (s0 : p.size ≤ 2147483647) (s1 : p'.size ≤ 2147483647 ∧ m'.size ≤ 2147483647) (f2 : (goodT 7 3 a b c p && verOk ⟨0, 0, 0, p', m'⟩) = true) (q1 : (a' == a) = true) (q2 : (a == 0) = true) (q4 : (b' == b) = true) (q3 : (b == 0) = true) (q5 : (c' == c) = false) (r : Bool) (hr1 : ∀ g h, OpIs 97 g h a' b' c' p' m' a b c p ByteArray.empty (opS (opM o)) ByteArray.empty (3 == 1) (decide (3 < 3)) (3 == 2) true false) (hr2 : ∀ g h, OpIs 104 g h a' b' c' p' m' a b c p ByteArray.empty (opS (opM o)) ByteArray.empty (3 == 1) (decide (3 < 3)) (3 == 2) true r) (hr3 : ∀ g h, OpIs 97 g h a b c p ByteArray.empty a b c p ByteArray.empty (opS (opM o)) ByteArray.empty (3 == 1) (decide (3 < 3)) (3 == 2) true true) :
    Calls Tryd.prog 8 #[.agg #[.int .i64 o, .int .i64 3, .int .u64 a, .int .u64 b, .int .u64 c, .string p], .agg (scells a' b' c' p' m')] w fun e w' => e = .returned (.bool true) ∧ Below w.heap.size w w' := by
  have B := hid (show Below w.heap.size w ((w.alloc (.cells #[.int .i64 o, .int .i64 3, .int .u64 a, .int .u64 b, .int .u64 c, .string p] 36)).alloc (.cells #[.int .u64 a', .int .u64 b', .int .u64 c', .string p', .string m'] 27)) by go_grown)
  have Z := hid (show w.heap.size + 2 ≤ ((w.alloc (.cells #[.int .i64 o, .int .i64 3, .int .u64 a, .int .u64 b, .int .u64 c, .string p] 36)).alloc (.cells #[.int .u64 a', .int .u64 b', .int .u64 c', .string p', .string m'] 27)).heap.size by simp only [World.size_alloc]; omega)
  obtain ⟨qa, qb⟩ := two_new w (#[.int .i64 o, .int .i64 3, .int .u64 a, .int .u64 b, .int .u64 c, .string p]) (#[.int .u64 a', .int .u64 b', .int .u64 c', .string p', .string m']) 36 27
  have Qa := hid qa
  have Qb := hid qb
  clear qa qb
  have HV := hid hv
  clear hv
  have HR1 := hid hr1
  clear hr1
  have HR2 := hid hr2
  clear hr2
  have HR3 := hid hr3
  clear hr3
  go_enter Tryd.func8, Tryd.ntmps8
  go_wp2_with fail
  go_at_call 25
  refine (fits13_any _ _ a b c p _ hp).mono ?_
  rintro e w1 ⟨rfl, hb⟩
  replace Qa := hid ((Qa.out).below hb)
  replace Qb := hid ((Qb.out).below hb)
  replace Z := hid (Nat.le_trans (Nat.le_trans Z.out (by first | exact Nat.le_refl _ | omega | (simp only [World.size_alloc, World.size_drew]; omega))) hb.size)
  replace B := hid (bt B.out hb)
  clear hb
  have xa0 : w1.cell? ⟨w.heap.size, 0, none⟩ = some (.int .i64 o) := Qa.out.cell 0
  have xa1 : w1.cell? ⟨w.heap.size, 1, none⟩ = some (.int .i64 3) := Qa.out.cell 1
  have xa2 : w1.cell? ⟨w.heap.size, 2, none⟩ = some (.int .u64 a) := Qa.out.cell 2
  have xa3 : w1.cell? ⟨w.heap.size, 3, none⟩ = some (.int .u64 b) := Qa.out.cell 3
  have xa4 : w1.cell? ⟨w.heap.size, 4, none⟩ = some (.int .u64 c) := Qa.out.cell 4
  have xa5 : w1.cell? ⟨w.heap.size, 5, none⟩ = some (.string p) := Qa.out.cell 5
  have xb0 : w1.cell? ⟨w.heap.size + 1, 0, none⟩ = some (.int .u64 a') := Qb.out.cell 0
  have xb1 : w1.cell? ⟨w.heap.size + 1, 1, none⟩ = some (.int .u64 b') := Qb.out.cell 1
  have xb2 : w1.cell? ⟨w.heap.size + 1, 2, none⟩ = some (.int .u64 c') := Qb.out.cell 2
  have xb3 : w1.cell? ⟨w.heap.size + 1, 3, none⟩ = some (.string p') := Qb.out.cell 3
  have xb4 : w1.cell? ⟨w.heap.size + 1, 4, none⟩ = some (.string m') := Qb.out.cell 4
  go_wp2_with fail
  go_at_call 17
  refine (fitB_any a' b' c' p' m' _ hp' hm').mono ?_
  rintro e w2 ⟨rfl, hb⟩
  replace Qa := hid ((Qa.out).below hb)
  replace Qb := hid ((Qb.out).below hb)
  replace Z := hid (Nat.le_trans (Nat.le_trans Z.out (by first | exact Nat.le_refl _ | omega | (simp only [World.size_alloc, World.size_drew]; omega))) hb.size)
  replace B := hid (bt B.out hb)
  clear hb
  have xa0 : w2.cell? ⟨w.heap.size, 0, none⟩ = some (.int .i64 o) := Qa.out.cell 0
  have xa1 : w2.cell? ⟨w.heap.size, 1, none⟩ = some (.int .i64 3) := Qa.out.cell 1
  have xa2 : w2.cell? ⟨w.heap.size, 2, none⟩ = some (.int .u64 a) := Qa.out.cell 2
  have xa3 : w2.cell? ⟨w.heap.size, 3, none⟩ = some (.int .u64 b) := Qa.out.cell 3
  have xa4 : w2.cell? ⟨w.heap.size, 4, none⟩ = some (.int .u64 c) := Qa.out.cell 4
  have xa5 : w2.cell? ⟨w.heap.size, 5, none⟩ = some (.string p) := Qa.out.cell 5
  have xb0 : w2.cell? ⟨w.heap.size + 1, 0, none⟩ = some (.int .u64 a') := Qb.out.cell 0
  have xb1 : w2.cell? ⟨w.heap.size + 1, 1, none⟩ = some (.int .u64 b') := Qb.out.cell 1
  have xb2 : w2.cell? ⟨w.heap.size + 1, 2, none⟩ = some (.int .u64 c') := Qb.out.cell 2
  have xb3 : w2.cell? ⟨w.heap.size + 1, 3, none⟩ = some (.string p') := Qb.out.cell 3
  have xb4 : w2.cell? ⟨w.heap.size + 1, 4, none⟩ = some (.string m') := Qb.out.cell 4
  go_wp2_with fail
  go_at_call 26
  refine (asked_7 o 3 a b c p a' b' c' p' m' _ s0 s1).mono ?_
  rintro e w3 ⟨rfl, hb⟩
  replace Qa := hid ((Qa.out).below hb)
  replace Qb := hid ((Qb.out).below hb)
  replace Z := hid (Nat.le_trans (Nat.le_trans Z.out (by first | exact Nat.le_refl _ | omega | (simp only [World.size_alloc, World.size_drew]; omega))) hb.size)
  replace B := hid (bt B.out hb)
  clear hb
  have xa0 : w3.cell? ⟨w.heap.size, 0, none⟩ = some (.int .i64 o) := Qa.out.cell 0
  have xa1 : w3.cell? ⟨w.heap.size, 1, none⟩ = some (.int .i64 3) := Qa.out.cell 1
  have xa2 : w3.cell? ⟨w.heap.size, 2, none⟩ = some (.int .u64 a) := Qa.out.cell 2
  have xa3 : w3.cell? ⟨w.heap.size, 3, none⟩ = some (.int .u64 b) := Qa.out.cell 3
  have xa4 : w3.cell? ⟨w.heap.size, 4, none⟩ = some (.int .u64 c) := Qa.out.cell 4
  have xa5 : w3.cell? ⟨w.heap.size, 5, none⟩ = some (.string p) := Qa.out.cell 5
  have xb0 : w3.cell? ⟨w.heap.size + 1, 0, none⟩ = some (.int .u64 a') := Qb.out.cell 0
  have xb1 : w3.cell? ⟨w.heap.size + 1, 1, none⟩ = some (.int .u64 b') := Qb.out.cell 1
  have xb2 : w3.cell? ⟨w.heap.size + 1, 2, none⟩ = some (.int .u64 c') := Qb.out.cell 2
  have xb3 : w3.cell? ⟨w.heap.size + 1, 3, none⟩ = some (.string p') := Qb.out.cell 3
  have xb4 : w3.cell? ⟨w.heap.size + 1, 4, none⟩ = some (.string m') := Qb.out.cell 4
  go_wp2_with fail
  have C1 := hid (fun d os => Calls.regrown_of (caretHoldsM o 3 (by omega) a' b' c' p' m' a b c p true _ (Go.Sort.grow (redrawn w3 d) os) (HV.out.below (bt B.out (below_regrown w3 d os))) HR1.out))
  have C2 := hid (fun d os => Calls.regrown_of (leastHoldsM o 3 (by omega) a' b' c' p' m' a b c p true _ (Go.Sort.grow (redrawn w3 d) os) (HV.out.below (bt B.out (below_regrown w3 d os))) HR2.out))
  have C3 := hid (fun d os => Calls.regrown_of (leastV_any o 3 a b c p (Go.Sort.grow (redrawn w3 d) os)))
  have C4 := hid (fun d os => Calls.regrown_of (caretHoldsM o 3 (by omega) a b c p ByteArray.empty a b c p true _ (Go.Sort.grow (redrawn w3 d) os) (HV.out.below (bt B.out (below_regrown w3 d os))) HR3.out))
  have kQa0 : ∀ d os, (Go.Sort.grow (redrawn w3 d) os).cell? ⟨w.heap.size, 0, none⟩ = some (.int .i64 o) := fun d os => (blk_gr Qa.out d os).cell 0
  have kQa1 : ∀ d os, (Go.Sort.grow (redrawn w3 d) os).cell? ⟨w.heap.size, 1, none⟩ = some (.int .i64 3) := fun d os => (blk_gr Qa.out d os).cell 1
  have kQa2 : ∀ d os, (Go.Sort.grow (redrawn w3 d) os).cell? ⟨w.heap.size, 2, none⟩ = some (.int .u64 a) := fun d os => (blk_gr Qa.out d os).cell 2
  have kQa3 : ∀ d os, (Go.Sort.grow (redrawn w3 d) os).cell? ⟨w.heap.size, 3, none⟩ = some (.int .u64 b) := fun d os => (blk_gr Qa.out d os).cell 3
  have kQa4 : ∀ d os, (Go.Sort.grow (redrawn w3 d) os).cell? ⟨w.heap.size, 4, none⟩ = some (.int .u64 c) := fun d os => (blk_gr Qa.out d os).cell 4
  have kQa5 : ∀ d os, (Go.Sort.grow (redrawn w3 d) os).cell? ⟨w.heap.size, 5, none⟩ = some (.string p) := fun d os => (blk_gr Qa.out d os).cell 5
  have kQb0 : ∀ d os, (Go.Sort.grow (redrawn w3 d) os).cell? ⟨w.heap.size + 1, 0, none⟩ = some (.int .u64 a') := fun d os => (blk_gr Qb.out d os).cell 0
  have kQb1 : ∀ d os, (Go.Sort.grow (redrawn w3 d) os).cell? ⟨w.heap.size + 1, 1, none⟩ = some (.int .u64 b') := fun d os => (blk_gr Qb.out d os).cell 1
  have kQb2 : ∀ d os, (Go.Sort.grow (redrawn w3 d) os).cell? ⟨w.heap.size + 1, 2, none⟩ = some (.int .u64 c') := fun d os => (blk_gr Qb.out d os).cell 2
  have kQb3 : ∀ d os, (Go.Sort.grow (redrawn w3 d) os).cell? ⟨w.heap.size + 1, 3, none⟩ = some (.string p') := fun d os => (blk_gr Qb.out d os).cell 3
  have kQb4 : ∀ d os, (Go.Sort.grow (redrawn w3 d) os).cell? ⟨w.heap.size + 1, 4, none⟩ = some (.string m') := fun d os => (blk_gr Qb.out d os).cell 4
  refine wp_region_quiet_below (by kernel_rfl) (by kernel_rfl) ?_
  repeat (go_big_quiet_step ((first | (go_at_call_of 27 (Value.string m'); exact C1.out _ _) | (go_at_call 30; exact C2.out _ _) | (go_at_call 31; exact C3.out _ _) | (go_at_call 27; exact C4.out _ _) | fail)))
  refine wpQuiet_nil ?_
  intro _ hw'
  obtain ⟨⟨dq, osq⟩, hw''⟩ := hw'
  subst hw''
  go_wp2_with fail
  go_ret
  exact ⟨rfl, bt B.out (below_regrown _ _ _)⟩

set_option maxHeartbeats 800000 in
set_option maxRecDepth 100000 in
theorem win_9 (o : Int) (a b c : Int) (p : ByteArray) (a' b' c' : Int) (p' m' : ByteArray) (w : World) (hp : p.size ≤ maxLen) (hp' : p'.size ≤ maxLen) (hm' : m'.size ≤ maxLen) (hv : Vars w) (f0 : decide (p.size ≤ 2147483647) = true) (f1 : fitB p' m' = true) (s0 : p.size ≤ 2147483647) (s1 : p'.size ≤ 2147483647 ∧ m'.size ≤ 2147483647) (f2 : (goodT 7 3 a b c p && verOk ⟨0, 0, 0, p', m'⟩) = true) (q1 : (a' == a) = true) (q2 : (a == 0) = true) (q4 : (b' == b) = true) (q3 : (b == 0) = true) (q5 : (c' == c) = true) (r : Bool) (hr1 : ∀ g h, OpIs 97 g h a' b' c' p' m' a b c p ByteArray.empty (opS (opM o)) ByteArray.empty (3 == 1) (decide (3 < 3)) (3 == 2) true r) (hr2 : ∀ g h, OpIs 104 g h a' b' c' p' m' a b c p ByteArray.empty (opS (opM o)) ByteArray.empty (3 == 1) (decide (3 < 3)) (3 == 2) true r) (hr3 : ∀ g h, OpIs 97 g h a b c p ByteArray.empty a b c p ByteArray.empty (opS (opM o)) ByteArray.empty (3 == 1) (decide (3 < 3)) (3 == 2) true true) :
    Calls Tryd.prog 8 #[.agg #[.int .i64 o, .int .i64 3, .int .u64 a, .int .u64 b, .int .u64 c, .string p], .agg (scells a' b' c' p' m')] w fun e w' => e = .returned (.bool true) ∧ Below w.heap.size w w' := by
  have B := hid (show Below w.heap.size w ((w.alloc (.cells #[.int .i64 o, .int .i64 3, .int .u64 a, .int .u64 b, .int .u64 c, .string p] 36)).alloc (.cells #[.int .u64 a', .int .u64 b', .int .u64 c', .string p', .string m'] 27)) by go_grown)
  have Z := hid (show w.heap.size + 2 ≤ ((w.alloc (.cells #[.int .i64 o, .int .i64 3, .int .u64 a, .int .u64 b, .int .u64 c, .string p] 36)).alloc (.cells #[.int .u64 a', .int .u64 b', .int .u64 c', .string p', .string m'] 27)).heap.size by simp only [World.size_alloc]; omega)
  obtain ⟨qa, qb⟩ := two_new w (#[.int .i64 o, .int .i64 3, .int .u64 a, .int .u64 b, .int .u64 c, .string p]) (#[.int .u64 a', .int .u64 b', .int .u64 c', .string p', .string m']) 36 27
  have Qa := hid qa
  have Qb := hid qb
  clear qa qb
  have HV := hid hv
  clear hv
  have HR1 := hid hr1
  clear hr1
  have HR2 := hid hr2
  clear hr2
  have HR3 := hid hr3
  clear hr3
  go_enter Tryd.func8, Tryd.ntmps8
  go_wp2_with fail
  go_at_call 25
  refine (fits13_any _ _ a b c p _ hp).mono ?_
  rintro e w1 ⟨rfl, hb⟩
  replace Qa := hid ((Qa.out).below hb)
  replace Qb := hid ((Qb.out).below hb)
  replace Z := hid (Nat.le_trans (Nat.le_trans Z.out (by first | exact Nat.le_refl _ | omega | (simp only [World.size_alloc, World.size_drew]; omega))) hb.size)
  replace B := hid (bt B.out hb)
  clear hb
  have xa0 : w1.cell? ⟨w.heap.size, 0, none⟩ = some (.int .i64 o) := Qa.out.cell 0
  have xa1 : w1.cell? ⟨w.heap.size, 1, none⟩ = some (.int .i64 3) := Qa.out.cell 1
  have xa2 : w1.cell? ⟨w.heap.size, 2, none⟩ = some (.int .u64 a) := Qa.out.cell 2
  have xa3 : w1.cell? ⟨w.heap.size, 3, none⟩ = some (.int .u64 b) := Qa.out.cell 3
  have xa4 : w1.cell? ⟨w.heap.size, 4, none⟩ = some (.int .u64 c) := Qa.out.cell 4
  have xa5 : w1.cell? ⟨w.heap.size, 5, none⟩ = some (.string p) := Qa.out.cell 5
  have xb0 : w1.cell? ⟨w.heap.size + 1, 0, none⟩ = some (.int .u64 a') := Qb.out.cell 0
  have xb1 : w1.cell? ⟨w.heap.size + 1, 1, none⟩ = some (.int .u64 b') := Qb.out.cell 1
  have xb2 : w1.cell? ⟨w.heap.size + 1, 2, none⟩ = some (.int .u64 c') := Qb.out.cell 2
  have xb3 : w1.cell? ⟨w.heap.size + 1, 3, none⟩ = some (.string p') := Qb.out.cell 3
  have xb4 : w1.cell? ⟨w.heap.size + 1, 4, none⟩ = some (.string m') := Qb.out.cell 4
  go_wp2_with fail
  go_at_call 17
  refine (fitB_any a' b' c' p' m' _ hp' hm').mono ?_
  rintro e w2 ⟨rfl, hb⟩
  replace Qa := hid ((Qa.out).below hb)
  replace Qb := hid ((Qb.out).below hb)
  replace Z := hid (Nat.le_trans (Nat.le_trans Z.out (by first | exact Nat.le_refl _ | omega | (simp only [World.size_alloc, World.size_drew]; omega))) hb.size)
  replace B := hid (bt B.out hb)
  clear hb
  have xa0 : w2.cell? ⟨w.heap.size, 0, none⟩ = some (.int .i64 o) := Qa.out.cell 0
  have xa1 : w2.cell? ⟨w.heap.size, 1, none⟩ = some (.int .i64 3) := Qa.out.cell 1
  have xa2 : w2.cell? ⟨w.heap.size, 2, none⟩ = some (.int .u64 a) := Qa.out.cell 2
  have xa3 : w2.cell? ⟨w.heap.size, 3, none⟩ = some (.int .u64 b) := Qa.out.cell 3
  have xa4 : w2.cell? ⟨w.heap.size, 4, none⟩ = some (.int .u64 c) := Qa.out.cell 4
  have xa5 : w2.cell? ⟨w.heap.size, 5, none⟩ = some (.string p) := Qa.out.cell 5
  have xb0 : w2.cell? ⟨w.heap.size + 1, 0, none⟩ = some (.int .u64 a') := Qb.out.cell 0
  have xb1 : w2.cell? ⟨w.heap.size + 1, 1, none⟩ = some (.int .u64 b') := Qb.out.cell 1
  have xb2 : w2.cell? ⟨w.heap.size + 1, 2, none⟩ = some (.int .u64 c') := Qb.out.cell 2
  have xb3 : w2.cell? ⟨w.heap.size + 1, 3, none⟩ = some (.string p') := Qb.out.cell 3
  have xb4 : w2.cell? ⟨w.heap.size + 1, 4, none⟩ = some (.string m') := Qb.out.cell 4
  go_wp2_with fail
  go_at_call 26
  refine (asked_7 o 3 a b c p a' b' c' p' m' _ s0 s1).mono ?_
  rintro e w3 ⟨rfl, hb⟩
  replace Qa := hid ((Qa.out).below hb)
  replace Qb := hid ((Qb.out).below hb)
  replace Z := hid (Nat.le_trans (Nat.le_trans Z.out (by first | exact Nat.le_refl _ | omega | (simp only [World.size_alloc, World.size_drew]; omega))) hb.size)
  replace B := hid (bt B.out hb)
  clear hb
  have xa0 : w3.cell? ⟨w.heap.size, 0, none⟩ = some (.int .i64 o) := Qa.out.cell 0
  have xa1 : w3.cell? ⟨w.heap.size, 1, none⟩ = some (.int .i64 3) := Qa.out.cell 1
  have xa2 : w3.cell? ⟨w.heap.size, 2, none⟩ = some (.int .u64 a) := Qa.out.cell 2
  have xa3 : w3.cell? ⟨w.heap.size, 3, none⟩ = some (.int .u64 b) := Qa.out.cell 3
  have xa4 : w3.cell? ⟨w.heap.size, 4, none⟩ = some (.int .u64 c) := Qa.out.cell 4
  have xa5 : w3.cell? ⟨w.heap.size, 5, none⟩ = some (.string p) := Qa.out.cell 5
  have xb0 : w3.cell? ⟨w.heap.size + 1, 0, none⟩ = some (.int .u64 a') := Qb.out.cell 0
  have xb1 : w3.cell? ⟨w.heap.size + 1, 1, none⟩ = some (.int .u64 b') := Qb.out.cell 1
  have xb2 : w3.cell? ⟨w.heap.size + 1, 2, none⟩ = some (.int .u64 c') := Qb.out.cell 2
  have xb3 : w3.cell? ⟨w.heap.size + 1, 3, none⟩ = some (.string p') := Qb.out.cell 3
  have xb4 : w3.cell? ⟨w.heap.size + 1, 4, none⟩ = some (.string m') := Qb.out.cell 4
  go_wp2_with fail
  have C1 := hid (fun d os => Calls.regrown_of (caretHoldsM o 3 (by omega) a' b' c' p' m' a b c p true _ (Go.Sort.grow (redrawn w3 d) os) (HV.out.below (bt B.out (below_regrown w3 d os))) HR1.out))
  have C2 := hid (fun d os => Calls.regrown_of (leastHoldsM o 3 (by omega) a' b' c' p' m' a b c p true _ (Go.Sort.grow (redrawn w3 d) os) (HV.out.below (bt B.out (below_regrown w3 d os))) HR2.out))
  have C3 := hid (fun d os => Calls.regrown_of (leastV_any o 3 a b c p (Go.Sort.grow (redrawn w3 d) os)))
  have C4 := hid (fun d os => Calls.regrown_of (caretHoldsM o 3 (by omega) a b c p ByteArray.empty a b c p true _ (Go.Sort.grow (redrawn w3 d) os) (HV.out.below (bt B.out (below_regrown w3 d os))) HR3.out))
  have kQa0 : ∀ d os, (Go.Sort.grow (redrawn w3 d) os).cell? ⟨w.heap.size, 0, none⟩ = some (.int .i64 o) := fun d os => (blk_gr Qa.out d os).cell 0
  have kQa1 : ∀ d os, (Go.Sort.grow (redrawn w3 d) os).cell? ⟨w.heap.size, 1, none⟩ = some (.int .i64 3) := fun d os => (blk_gr Qa.out d os).cell 1
  have kQa2 : ∀ d os, (Go.Sort.grow (redrawn w3 d) os).cell? ⟨w.heap.size, 2, none⟩ = some (.int .u64 a) := fun d os => (blk_gr Qa.out d os).cell 2
  have kQa3 : ∀ d os, (Go.Sort.grow (redrawn w3 d) os).cell? ⟨w.heap.size, 3, none⟩ = some (.int .u64 b) := fun d os => (blk_gr Qa.out d os).cell 3
  have kQa4 : ∀ d os, (Go.Sort.grow (redrawn w3 d) os).cell? ⟨w.heap.size, 4, none⟩ = some (.int .u64 c) := fun d os => (blk_gr Qa.out d os).cell 4
  have kQa5 : ∀ d os, (Go.Sort.grow (redrawn w3 d) os).cell? ⟨w.heap.size, 5, none⟩ = some (.string p) := fun d os => (blk_gr Qa.out d os).cell 5
  have kQb0 : ∀ d os, (Go.Sort.grow (redrawn w3 d) os).cell? ⟨w.heap.size + 1, 0, none⟩ = some (.int .u64 a') := fun d os => (blk_gr Qb.out d os).cell 0
  have kQb1 : ∀ d os, (Go.Sort.grow (redrawn w3 d) os).cell? ⟨w.heap.size + 1, 1, none⟩ = some (.int .u64 b') := fun d os => (blk_gr Qb.out d os).cell 1
  have kQb2 : ∀ d os, (Go.Sort.grow (redrawn w3 d) os).cell? ⟨w.heap.size + 1, 2, none⟩ = some (.int .u64 c') := fun d os => (blk_gr Qb.out d os).cell 2
  have kQb3 : ∀ d os, (Go.Sort.grow (redrawn w3 d) os).cell? ⟨w.heap.size + 1, 3, none⟩ = some (.string p') := fun d os => (blk_gr Qb.out d os).cell 3
  have kQb4 : ∀ d os, (Go.Sort.grow (redrawn w3 d) os).cell? ⟨w.heap.size + 1, 4, none⟩ = some (.string m') := fun d os => (blk_gr Qb.out d os).cell 4
  refine wp_region_quiet_below (by kernel_rfl) (by kernel_rfl) ?_
  repeat (go_big_quiet_step ((first | (go_at_call_of 27 (Value.string m'); exact C1.out _ _) | (go_at_call 30; exact C2.out _ _) | (go_at_call 31; exact C3.out _ _) | (go_at_call 27; exact C4.out _ _) | fail)))
  refine wpQuiet_nil ?_
  intro _ hw'
  obtain ⟨⟨dq, osq⟩, hw''⟩ := hw'
  subst hw''
  go_wp2_with fail
  go_ret
  exact ⟨rfl, bt B.out (below_regrown _ _ _)⟩

end Go.Proofs.YtmlbjcdildaldaaDoor

set_option linter.unusedVariables false
set_option linter.unusedSimpArgs false
namespace Go.Proofs.YtmlbjcdildaldaaDoor
open Go.RowKit

def sameC (a' b' c' a b c : Int) : Bool := (a' == a) && ((if (a == 0) = true then (b' == b) else true) && (if (a == 0 && b == 0) = true then (c' == c) else true))
theorem caret_same (n a' b' c' a b c : Int) (ra' : 0 ≤ a') (rb' : 0 ≤ b') (ra : 0 ≤ a) (rb : 0 ≤ b) : opCaret false n a' b' c' a b c false false = (sameC a' b' c' a b c && decide (0 ≤ n)) := by
  unfold opCaret sameC
  by_cases hn : n < 0
  · have : ¬ 0 ≤ n := by omega
    simp [hn, this]
  · have h0 : 0 ≤ n := by omega
    by_cases ha : a = 0
    · subst ha
      by_cases hb : b = 0
      · subst hb
        by_cases h1 : 0 < a'
        · have : a' ≠ 0 := by omega
          simp [hn, h0, h1, this]
        · have e1 : a' = 0 := by omega
          subst e1
          by_cases h2 : 0 < b'
          · have : b' ≠ 0 := by omega
            simp [hn, h0, h2, this]
          · have e2 : b' = 0 := by omega
            subst e2
            by_cases h3 : c = c'
            · subst h3; simp [hn, h0]
            · have h3' : c' ≠ c := fun e => h3 e.symm
              have e3 : (c == c') = false := by simpa using h3
              have e4 : (c' == c) = false := by simpa using h3'
              simp [hn, h0, e3, e4]
      · have hb' : 0 < b := by omega
        by_cases h1 : 0 < a'
        · have : a' ≠ 0 := by omega
          simp [hn, h0, h1, this]
        · have e1 : a' = 0 := by omega
          subst e1
          simp [hn, h0, hb', hb]
    · have ha' : 0 < a := by omega
      simp [hn, h0, ha', ha]
theorem opV_caret (a b c : Int) (p : ByteArray) (x y z : Int) (q : ByteArray) : opV 7 a b c p x y z q 3 true = opCaret false (cmpV (num3 a b c x y z) p.toList q.toList) a b c x y z false false := by
  unfold opV opR
  have e : preBar p true = false := by simp [preBar]
  rw [e]
  rfl
theorem opV_least (a b c : Int) (p : ByteArray) (x y z : Int) (q : ByteArray) (k : Nat) : opV 4 a b c p x y z q k true = decide (0 ≤ cmpV (num3 a b c x y z) p.toList q.toList) := by
  unfold opV opR
  have e : preBar p true = false := by simp [preBar]
  rw [e]
  simp [opLeast]

theorem fnSemverCaretWindow_walk (o k : Int) (a b c : Int) (p : ByteArray) (a' b' c' : Int) (p' m' : ByteArray) (w : World) (w0 : (Lit.int .i64 o).wf = true) (w1 : (Lit.int .i64 k).wf = true) (wa : (Lit.int .u64 a).wf = true) (wb : (Lit.int .u64 b).wf = true) (wc : (Lit.int .u64 c).wf = true) (hp : p.size ≤ maxLen) (wa' : (Lit.int .u64 a').wf = true) (wb' : (Lit.int .u64 b').wf = true) (wc' : (Lit.int .u64 c').wf = true) (hp' : p'.size ≤ maxLen) (hm' : m'.size ≤ maxLen) (hv : Vars w) :
    Calls Tryd.prog 8 #[.agg #[.int .i64 o, .int .i64 k, .int .u64 a, .int .u64 b, .int .u64 c, .string p], .agg (scells a' b' c' p' m')] w fun e w' => e = .returned (.bool true) ∧ Below w.heap.size w w' := by
  have ra := wf_u64 wa
  have rb := wf_u64 wb
  have rc := wf_u64 wc
  have ra' := wf_u64 wa'
  have rb' := wf_u64 wb'
  have rc' := wf_u64 wc'
  cases f0 : decide (p.size ≤ 2147483647)
  · exact win_unfit1 o k a b c p a' b' c' p' m' w hp hp' hm' hv f0
  have s0 : p.size ≤ 2147483647 := of_decide_eq_true f0
  cases f1 : fitB p' m'
  · exact win_unfit2 o k a b c p a' b' c' p' m' w hp hp' hm' hv f0 f1
  have s1 := fitB_size f1
  cases f2 : (goodT 7 k a b c p && verOk ⟨0, 0, 0, p', m'⟩)
  · exact win_unasked o k a b c p a' b' c' p' m' w hp hp' hm' hv f0 f1 s0 s1 f2
  cases hk : (k == 3)
  · exact win_few o k a b c p a' b' c' p' m' w hp hp' hm' hv f0 f1 s0 s1 f2 hk
  obtain rfl : k = 3 := beq_iff_eq.1 hk
  have crt : ∀ (r : Bool), (sameC a' b' c' a b c && decide (0 ≤ cmpV (num3 a' b' c' a b c) p'.toList p.toList)) = r → ∀ g h, OpIs 97 g h a' b' c' p' m' a b c p ByteArray.empty (opS (opM o)) ByteArray.empty (3 == 1) (decide (3 < 3)) (3 == 2) true r := fun r e g h => by
    have q := opIs_any 7 (by omega) 3 a' b' c' p' m' a b c p ByteArray.empty (opS (opM o)) ByteArray.empty true s1.1 s0 (fun e => by omega) ra'.1 rb'.1 ra.1 rb.1 g h
    rw [opV_caret, caret_same _ _ _ _ _ _ _ ra'.1 rb'.1 ra.1 rb.1, e] at q
    exact q
  have lst : ∀ g h, OpIs 104 g h a' b' c' p' m' a b c p ByteArray.empty (opS (opM o)) ByteArray.empty (3 == 1) (decide (3 < 3)) (3 == 2) true (decide (0 ≤ cmpV (num3 a' b' c' a b c) p'.toList p.toList)) := fun g h => by
    have q := opIs_any 4 (by omega) 3 a' b' c' p' m' a b c p ByteArray.empty (opS (opM o)) ByteArray.empty true s1.1 s0 (fun e => by omega) ra'.1 rb'.1 ra.1 rb.1 g h
    rw [opV_least] at q
    exact q
  have own : ∀ g h, OpIs 97 g h a b c p ByteArray.empty a b c p ByteArray.empty (opS (opM o)) ByteArray.empty (3 == 1) (decide (3 < 3)) (3 == 2) true true := fun g h => by
    have q := opIs_any 7 (by omega) 3 a b c p ByteArray.empty a b c p ByteArray.empty (opS (opM o)) ByteArray.empty true s0 s0 (fun e => by omega) ra.1 rb.1 ra.1 rb.1 g h
    have e : opV 7 a b c p a b c p 3 true = true := by
      rw [opV_caret, caret_same _ _ _ _ _ _ _ ra.1 rb.1 ra.1 rb.1, num3_self]
      simp [sameC, cmpV, preCmp_self]
    rw [e] at q
    exact q
  cases q1 : (a' == a)
  · cases q2 : (a == 0)
    · exact win_1 o a b c p a' b' c' p' m' w hp hp' hm' hv f0 f1 s0 s1 f2 q1 q2 _ (crt _ (by simp [sameC, q1, q2])) lst own
    · cases q3 : (b == 0)
      · exact win_2 o a b c p a' b' c' p' m' w hp hp' hm' hv f0 f1 s0 s1 f2 q1 q2 q3 _ (crt _ (by simp [sameC, q1, q2, q3])) lst own
      · exact win_3 o a b c p a' b' c' p' m' w hp hp' hm' hv f0 f1 s0 s1 f2 q1 q2 q3 _ (crt _ (by simp [sameC, q1, q2, q3])) lst own
  · cases q2 : (a == 0)
    · exact win_4 o a b c p a' b' c' p' m' w hp hp' hm' hv f0 f1 s0 s1 f2 q1 q2 _ (crt _ (by simp [sameC, q1, q2])) lst own
    · cases q4 : (b' == b)
      · cases q3 : (b == 0)
        · exact win_5 o a b c p a' b' c' p' m' w hp hp' hm' hv f0 f1 s0 s1 f2 q1 q2 q4 q3 _ (crt _ (by simp [sameC, q1, q2, q4, q3])) lst own
        · exact win_6 o a b c p a' b' c' p' m' w hp hp' hm' hv f0 f1 s0 s1 f2 q1 q2 q4 q3 _ (crt _ (by simp [sameC, q1, q2, q4, q3])) lst own
      · cases q3 : (b == 0)
        · exact win_7 o a b c p a' b' c' p' m' w hp hp' hm' hv f0 f1 s0 s1 f2 q1 q2 q4 q3 _ (crt _ (by simp [sameC, q1, q2, q4, q3])) lst own
        · cases q5 : (c' == c)
          · exact win_8 o a b c p a' b' c' p' m' w hp hp' hm' hv f0 f1 s0 s1 f2 q1 q2 q4 q3 q5 _ (crt _ (by simp [sameC, q1, q2, q4, q3, q5])) lst own
          · exact win_9 o a b c p a' b' c' p' m' w hp hp' hm' hv f0 f1 s0 s1 f2 q1 q2 q4 q3 q5 _ (crt _ (by simp [sameC, q1, q2, q4, q3, q5])) lst own

end Go.Proofs.YtmlbjcdildaldaaDoor
