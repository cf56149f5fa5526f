/- The law FnSemverTermWild, walked. The law FnSemverTermWild: the plain law, and the ways joined. -/
import Derived.Test.YtmlbjcdildaldaaDoorApart
set_option linter.unusedVariables false
set_option linter.unusedSimpArgs false
namespace Go.Proofs.YtmlbjcdildaldaaDoor
open Go.RowKit

theorem svGood1 (a b c : Int) (p m : ByteArray) (s1 : p.size ≤ 2147483647) (s2 : m.size ≤ 2147483647) (n k : Nat) (W : World) (hn : n = W.heap.size) :
    Calls Tryd.prog 19 #[.slice (some ⟨n, 0, none⟩) 1 k] (W.alloc (.cells #[.int .u64 a, .int .u64 b, .int .u64 c, .string p, .string m] 27)) fun e w' =>
      e = .returned (.bool (verOk ⟨0, 0, 0, p, m⟩)) ∧ Below (W.alloc (.cells #[.int .u64 a, .int .u64 b, .int .u64 c, .string p, .string m] 27)).heap.size (W.alloc (.cells #[.int .u64 a, .int .u64 b, .int .u64 c, .string p, .string m] 27)) w' := by
  subst hn
  have := svGood_any [⟨a, b, c, p, m⟩] W.heap.size k _ (by simp) (vers_one W 27 ⟨a, b, c, p, m⟩) (by simp; omega)
  simpa [verOk] using this

theorem scFirst_0 (a b c : Int) (p m : ByteArray) (w : World) :
    Calls Tryd.prog 37 #[.agg (scells a b c p m), .int .i64 0] w fun e w' => e = .returned (.agg (scells a 0 0 ByteArray.empty ByteArray.empty)) ∧ Below w.heap.size w w' := by
  go_enter Tryd.func37, Tryd.ntmps37
  go_wp2_with fail
  go_returns
  exact ⟨rfl, by go_grown⟩

theorem scFirst_1 (a b c : Int) (p m : ByteArray) (w : World) :
    Calls Tryd.prog 37 #[.agg (scells a b c p m), .int .i64 1] w fun e w' => e = .returned (.agg (scells a 0 0 ByteArray.empty ByteArray.empty)) ∧ Below w.heap.size w w' := by
  go_enter Tryd.func37, Tryd.ntmps37
  go_wp2_with fail
  go_returns
  exact ⟨rfl, by go_grown⟩

theorem scFirst_2 (a b c : Int) (p m : ByteArray) (w : World) :
    Calls Tryd.prog 37 #[.agg (scells a b c p m), .int .i64 2] w fun e w' => e = .returned (.agg (scells a b 0 ByteArray.empty ByteArray.empty)) ∧ Below w.heap.size w w' := by
  go_enter Tryd.func37, Tryd.ntmps37
  go_wp2_with fail
  go_returns
  exact ⟨rfl, by go_grown⟩

set_option maxHeartbeats 800000 in
set_option maxRecDepth 100000 in
theorem wild_unfit1 (a b c : Int) (p m : ByteArray) (k : Int) (a' b' c' : Int) (p' m' : ByteArray) (pre : Bool) (w : World) (hp : p.size ≤ maxLen) (hm : m.size ≤ maxLen) (hp' : p'.size ≤ maxLen) (hm' : m'.size ≤ maxLen) (hv : Vars w) (f1 : fitB p m = false) :
    Calls Tryd.prog 11 #[.agg (scells a b c p m), .int .i64 k, .agg (scells a' b' c' p' m'), .bool pre] w fun e w' => e = .returned (.bool true) ∧ Below w.heap.size w w' := by
  have B := hid (show Below w.heap.size w ((w.alloc (.cells #[.int .u64 a, .int .u64 b, .int .u64 c, .string p, .string m] 27)).alloc (.cells #[.int .u64 a', .int .u64 b', .int .u64 c', .string p', .string m'] 27)) by go_grown)
  have Z := hid (show w.heap.size + 2 ≤ ((w.alloc (.cells #[.int .u64 a, .int .u64 b, .int .u64 c, .string p, .string m] 27)).alloc (.cells #[.int .u64 a', .int .u64 b', .int .u64 c', .string p', .string m'] 27)).heap.size by simp only [World.size_alloc]; omega)
  obtain ⟨qa, qb⟩ := two_new w (#[.int .u64 a, .int .u64 b, .int .u64 c, .string p, .string m]) (#[.int .u64 a', .int .u64 b', .int .u64 c', .string p', .string m']) 27 27
  have Qa := hid qa
  have Qb := hid qb
  clear qa qb
  have HV := hid hv
  clear hv
  go_enter Tryd.func11, Tryd.ntmps11
  go_wp2_with fail
  go_at_call 17
  refine (fitB_any a b c p m _ hp hm).mono ?_
  rintro e w1 ⟨rfl, hb⟩
  replace Qa := hid ((Qa.out).below hb)
  replace Qb := hid ((Qb.out).below hb)
  replace Z := hid (Nat.le_trans (Nat.le_trans Z.out (by first | exact Nat.le_refl _ | omega | (simp only [World.size_alloc, World.size_drew]; omega))) hb.size)
  replace B := hid (bt B.out hb)
  clear hb
  have xa0 : w1.cell? ⟨w.heap.size, 0, none⟩ = some (.int .u64 a) := Qa.out.cell 0
  have xa1 : w1.cell? ⟨w.heap.size, 1, none⟩ = some (.int .u64 b) := Qa.out.cell 1
  have xa2 : w1.cell? ⟨w.heap.size, 2, none⟩ = some (.int .u64 c) := Qa.out.cell 2
  have xa3 : w1.cell? ⟨w.heap.size, 3, none⟩ = some (.string p) := Qa.out.cell 3
  have xa4 : w1.cell? ⟨w.heap.size, 4, none⟩ = some (.string m) := Qa.out.cell 4
  have xb0 : w1.cell? ⟨w.heap.size + 1, 0, none⟩ = some (.int .u64 a') := Qb.out.cell 0
  have xb1 : w1.cell? ⟨w.heap.size + 1, 1, none⟩ = some (.int .u64 b') := Qb.out.cell 1
  have xb2 : w1.cell? ⟨w.heap.size + 1, 2, none⟩ = some (.int .u64 c') := Qb.out.cell 2
  have xb3 : w1.cell? ⟨w.heap.size + 1, 3, none⟩ = some (.string p') := Qb.out.cell 3
  have xb4 : w1.cell? ⟨w.heap.size + 1, 4, none⟩ = some (.string m') := Qb.out.cell 4
  go_wp2_with fail
  go_ret
  exact ⟨rfl, B.out⟩

set_option maxHeartbeats 800000 in
set_option maxRecDepth 100000 in
theorem wild_unfit2 (a b c : Int) (p m : ByteArray) (k : Int) (a' b' c' : Int) (p' m' : ByteArray) (pre : Bool) (w : World) (hp : p.size ≤ maxLen) (hm : m.size ≤ maxLen) (hp' : p'.size ≤ maxLen) (hm' : m'.size ≤ maxLen) (hv : Vars w) (f1 : fitB p m = true) (f2 : fitB p' m' = false) :
    Calls Tryd.prog 11 #[.agg (scells a b c p m), .int .i64 k, .agg (scells a' b' c' p' m'), .bool pre] w fun e w' => e = .returned (.bool true) ∧ Below w.heap.size w w' := by
  have B := hid (show Below w.heap.size w ((w.alloc (.cells #[.int .u64 a, .int .u64 b, .int .u64 c, .string p, .string m] 27)).alloc (.cells #[.int .u64 a', .int .u64 b', .int .u64 c', .string p', .string m'] 27)) by go_grown)
  have Z := hid (show w.heap.size + 2 ≤ ((w.alloc (.cells #[.int .u64 a, .int .u64 b, .int .u64 c, .string p, .string m] 27)).alloc (.cells #[.int .u64 a', .int .u64 b', .int .u64 c', .string p', .string m'] 27)).heap.size by simp only [World.size_alloc]; omega)
  obtain ⟨qa, qb⟩ := two_new w (#[.int .u64 a, .int .u64 b, .int .u64 c, .string p, .string m]) (#[.int .u64 a', .int .u64 b', .int .u64 c', .string p', .string m']) 27 27
  have Qa := hid qa
  have Qb := hid qb
  clear qa qb
  have HV := hid hv
  clear hv
  go_enter Tryd.func11, Tryd.ntmps11
  go_wp2_with fail
  go_at_call 17
  refine (fitB_any a b c p m _ hp hm).mono ?_
  rintro e w1 ⟨rfl, hb⟩
  replace Qa := hid ((Qa.out).below hb)
  replace Qb := hid ((Qb.out).below hb)
  replace Z := hid (Nat.le_trans (Nat.le_trans Z.out (by first | exact Nat.le_refl _ | omega | (simp only [World.size_alloc, World.size_drew]; omega))) hb.size)
  replace B := hid (bt B.out hb)
  clear hb
  have xa0 : w1.cell? ⟨w.heap.size, 0, none⟩ = some (.int .u64 a) := Qa.out.cell 0
  have xa1 : w1.cell? ⟨w.heap.size, 1, none⟩ = some (.int .u64 b) := Qa.out.cell 1
  have xa2 : w1.cell? ⟨w.heap.size, 2, none⟩ = some (.int .u64 c) := Qa.out.cell 2
  have xa3 : w1.cell? ⟨w.heap.size, 3, none⟩ = some (.string p) := Qa.out.cell 3
  have xa4 : w1.cell? ⟨w.heap.size, 4, none⟩ = some (.string m) := Qa.out.cell 4
  have xb0 : w1.cell? ⟨w.heap.size + 1, 0, none⟩ = some (.int .u64 a') := Qb.out.cell 0
  have xb1 : w1.cell? ⟨w.heap.size + 1, 1, none⟩ = some (.int .u64 b') := Qb.out.cell 1
  have xb2 : w1.cell? ⟨w.heap.size + 1, 2, none⟩ = some (.int .u64 c') := Qb.out.cell 2
  have xb3 : w1.cell? ⟨w.heap.size + 1, 3, none⟩ = some (.string p') := Qb.out.cell 3
  have xb4 : w1.cell? ⟨w.heap.size + 1, 4, none⟩ = some (.string m') := Qb.out.cell 4
  go_wp2_with fail
  go_at_call 17
  refine (fitB_any a' b' c' p' m' _ hp' hm').mono ?_
  rintro e w2 ⟨rfl, hb⟩
  replace Qa := hid ((Qa.out).below hb)
  replace Qb := hid ((Qb.out).below hb)
  replace Z := hid (Nat.le_trans (Nat.le_trans Z.out (by first | exact Nat.le_refl _ | omega | (simp only [World.size_alloc, World.size_drew]; omega))) hb.size)
  replace B := hid (bt B.out hb)
  clear hb
  have xa0 : w2.cell? ⟨w.heap.size, 0, none⟩ = some (.int .u64 a) := Qa.out.cell 0
  have xa1 : w2.cell? ⟨w.heap.size, 1, none⟩ = some (.int .u64 b) := Qa.out.cell 1
  have xa2 : w2.cell? ⟨w.heap.size, 2, none⟩ = some (.int .u64 c) := Qa.out.cell 2
  have xa3 : w2.cell? ⟨w.heap.size, 3, none⟩ = some (.string p) := Qa.out.cell 3
  have xa4 : w2.cell? ⟨w.heap.size, 4, none⟩ = some (.string m) := Qa.out.cell 4
  have xb0 : w2.cell? ⟨w.heap.size + 1, 0, none⟩ = some (.int .u64 a') := Qb.out.cell 0
  have xb1 : w2.cell? ⟨w.heap.size + 1, 1, none⟩ = some (.int .u64 b') := Qb.out.cell 1
  have xb2 : w2.cell? ⟨w.heap.size + 1, 2, none⟩ = some (.int .u64 c') := Qb.out.cell 2
  have xb3 : w2.cell? ⟨w.heap.size + 1, 3, none⟩ = some (.string p') := Qb.out.cell 3
  have xb4 : w2.cell? ⟨w.heap.size + 1, 4, none⟩ = some (.string m') := Qb.out.cell 4
  go_wp2_with fail
  go_ret
  exact ⟨rfl, B.out⟩

set_option maxHeartbeats 800000 in
set_option maxRecDepth 100000 in
theorem wild_low (a b c : Int) (p m : ByteArray) (k : Int) (a' b' c' : Int) (p' m' : ByteArray) (pre : Bool) (w : World) (hp : p.size ≤ maxLen) (hm : m.size ≤ maxLen) (hp' : p'.size ≤ maxLen) (hm' : m'.size ≤ maxLen) (hv : Vars w) (f1 : fitB p m = true) (f2 : fitB p' m' = true) (h1 : k < 0) :
    Calls Tryd.prog 11 #[.agg (scells a b c p m), .int .i64 k, .agg (scells a' b' c' p' m'), .bool pre] w fun e w' => e = .returned (.bool true) ∧ Below w.heap.size w w' := by
  have B := hid (show Below w.heap.size w ((w.alloc (.cells #[.int .u64 a, .int .u64 b, .int .u64 c, .string p, .string m] 27)).alloc (.cells #[.int .u64 a', .int .u64 b', .int .u64 c', .string p', .string m'] 27)) by go_grown)
  have Z := hid (show w.heap.size + 2 ≤ ((w.alloc (.cells #[.int .u64 a, .int .u64 b, .int .u64 c, .string p, .string m] 27)).alloc (.cells #[.int .u64 a', .int .u64 b', .int .u64 c', .string p', .string m'] 27)).heap.size by simp only [World.size_alloc]; omega)
  obtain ⟨qa, qb⟩ := two_new w (#[.int .u64 a, .int .u64 b, .int .u64 c, .string p, .string m]) (#[.int .u64 a', .int .u64 b', .int .u64 c', .string p', .string m']) 27 27
  have Qa := hid qa
  have Qb := hid qb
  clear qa qb
  have HV := hid hv
  clear hv
  go_enter Tryd.func11, Tryd.ntmps11
  go_wp2_with fail
  go_at_call 17
  refine (fitB_any a b c p m _ hp hm).mono ?_
  rintro e w1 ⟨rfl, hb⟩
  replace Qa := hid ((Qa.out).below hb)
  replace Qb := hid ((Qb.out).below hb)
  replace Z := hid (Nat.le_trans (Nat.le_trans Z.out (by first | exact Nat.le_refl _ | omega | (simp only [World.size_alloc, World.size_drew]; omega))) hb.size)
  replace B := hid (bt B.out hb)
  clear hb
  have xa0 : w1.cell? ⟨w.heap.size, 0, none⟩ = some (.int .u64 a) := Qa.out.cell 0
  have xa1 : w1.cell? ⟨w.heap.size, 1, none⟩ = some (.int .u64 b) := Qa.out.cell 1
  have xa2 : w1.cell? ⟨w.heap.size, 2, none⟩ = some (.int .u64 c) := Qa.out.cell 2
  have xa3 : w1.cell? ⟨w.heap.size, 3, none⟩ = some (.string p) := Qa.out.cell 3
  have xa4 : w1.cell? ⟨w.heap.size, 4, none⟩ = some (.string m) := Qa.out.cell 4
  have xb0 : w1.cell? ⟨w.heap.size + 1, 0, none⟩ = some (.int .u64 a') := Qb.out.cell 0
  have xb1 : w1.cell? ⟨w.heap.size + 1, 1, none⟩ = some (.int .u64 b') := Qb.out.cell 1
  have xb2 : w1.cell? ⟨w.heap.size + 1, 2, none⟩ = some (.int .u64 c') := Qb.out.cell 2
  have xb3 : w1.cell? ⟨w.heap.size + 1, 3, none⟩ = some (.string p') := Qb.out.cell 3
  have xb4 : w1.cell? ⟨w.heap.size + 1, 4, none⟩ = some (.string m') := Qb.out.cell 4
  go_wp2_with fail
  go_at_call 17
  refine (fitB_any a' b' c' p' m' _ hp' hm').mono ?_
  rintro e w2 ⟨rfl, hb⟩
  replace Qa := hid ((Qa.out).below hb)
  replace Qb := hid ((Qb.out).below hb)
  replace Z := hid (Nat.le_trans (Nat.le_trans Z.out (by first | exact Nat.le_refl _ | omega | (simp only [World.size_alloc, World.size_drew]; omega))) hb.size)
  replace B := hid (bt B.out hb)
  clear hb
  have xa0 : w2.cell? ⟨w.heap.size, 0, none⟩ = some (.int .u64 a) := Qa.out.cell 0
  have xa1 : w2.cell? ⟨w.heap.size, 1, none⟩ = some (.int .u64 b) := Qa.out.cell 1
  have xa2 : w2.cell? ⟨w.heap.size, 2, none⟩ = some (.int .u64 c) := Qa.out.cell 2
  have xa3 : w2.cell? ⟨w.heap.size, 3, none⟩ = some (.string p) := Qa.out.cell 3
  have xa4 : w2.cell? ⟨w.heap.size, 4, none⟩ = some (.string m) := Qa.out.cell 4
  have xb0 : w2.cell? ⟨w.heap.size + 1, 0, none⟩ = some (.int .u64 a') := Qb.out.cell 0
  have xb1 : w2.cell? ⟨w.heap.size + 1, 1, none⟩ = some (.int .u64 b') := Qb.out.cell 1
  have xb2 : w2.cell? ⟨w.heap.size + 1, 2, none⟩ = some (.int .u64 c') := Qb.out.cell 2
  have xb3 : w2.cell? ⟨w.heap.size + 1, 3, none⟩ = some (.string p') := Qb.out.cell 3
  have xb4 : w2.cell? ⟨w.heap.size + 1, 4, none⟩ = some (.string m') := Qb.out.cell 4
  go_wp2_with fail
  go_ret
  exact ⟨rfl, B.out⟩

set_option maxHeartbeats 800000 in
set_option maxRecDepth 100000 in
theorem wild_high (a b c : Int) (p m : ByteArray) (k : Int) (a' b' c' : Int) (p' m' : ByteArray) (pre : Bool) (w : World) (hp : p.size ≤ maxLen) (hm : m.size ≤ maxLen) (hp' : p'.size ≤ maxLen) (hm' : m'.size ≤ maxLen) (hv : Vars w) (f1 : fitB p m = true) (f2 : fitB p' m' = true) (h1 : 0 ≤ k) (h3 : 2 < k) :
    Calls Tryd.prog 11 #[.agg (scells a b c p m), .int .i64 k, .agg (scells a' b' c' p' m'), .bool pre] w fun e w' => e = .returned (.bool true) ∧ Below w.heap.size w w' := by
  have B := hid (show Below w.heap.size w ((w.alloc (.cells #[.int .u64 a, .int .u64 b, .int .u64 c, .string p, .string m] 27)).alloc (.cells #[.int .u64 a', .int .u64 b', .int .u64 c', .string p', .string m'] 27)) by go_grown)
  have Z := hid (show w.heap.size + 2 ≤ ((w.alloc (.cells #[.int .u64 a, .int .u64 b, .int .u64 c, .string p, .string m] 27)).alloc (.cells #[.int .u64 a', .int .u64 b', .int .u64 c', .string p', .string m'] 27)).heap.size by simp only [World.size_alloc]; omega)
  obtain ⟨qa, qb⟩ := two_new w (#[.int .u64 a, .int .u64 b, .int .u64 c, .string p, .string m]) (#[.int .u64 a', .int .u64 b', .int .u64 c', .string p', .string m']) 27 27
  have Qa := hid qa
  have Qb := hid qb
  clear qa qb
  have HV := hid hv
  clear hv
  go_enter Tryd.func11, Tryd.ntmps11
  go_wp2_with fail
  go_at_call 17
  refine (fitB_any a b c p m _ hp hm).mono ?_
  rintro e w1 ⟨rfl, hb⟩
  replace Qa := hid ((Qa.out).below hb)
  replace Qb := hid ((Qb.out).below hb)
  replace Z := hid (Nat.le_trans (Nat.le_trans Z.out (by first | exact Nat.le_refl _ | omega | (simp only [World.size_alloc, World.size_drew]; omega))) hb.size)
  replace B := hid (bt B.out hb)
  clear hb
  have xa0 : w1.cell? ⟨w.heap.size, 0, none⟩ = some (.int .u64 a) := Qa.out.cell 0
  have xa1 : w1.cell? ⟨w.heap.size, 1, none⟩ = some (.int .u64 b) := Qa.out.cell 1
  have xa2 : w1.cell? ⟨w.heap.size, 2, none⟩ = some (.int .u64 c) := Qa.out.cell 2
  have xa3 : w1.cell? ⟨w.heap.size, 3, none⟩ = some (.string p) := Qa.out.cell 3
  have xa4 : w1.cell? ⟨w.heap.size, 4, none⟩ = some (.string m) := Qa.out.cell 4
  have xb0 : w1.cell? ⟨w.heap.size + 1, 0, none⟩ = some (.int .u64 a') := Qb.out.cell 0
  have xb1 : w1.cell? ⟨w.heap.size + 1, 1, none⟩ = some (.int .u64 b') := Qb.out.cell 1
  have xb2 : w1.cell? ⟨w.heap.size + 1, 2, none⟩ = some (.int .u64 c') := Qb.out.cell 2
  have xb3 : w1.cell? ⟨w.heap.size + 1, 3, none⟩ = some (.string p') := Qb.out.cell 3
  have xb4 : w1.cell? ⟨w.heap.size + 1, 4, none⟩ = some (.string m') := Qb.out.cell 4
  go_wp2_with fail
  go_at_call 17
  refine (fitB_any a' b' c' p' m' _ hp' hm').mono ?_
  rintro e w2 ⟨rfl, hb⟩
  replace Qa := hid ((Qa.out).below hb)
  replace Qb := hid ((Qb.out).below hb)
  replace Z := hid (Nat.le_trans (Nat.le_trans Z.out (by first | exact Nat.le_refl _ | omega | (simp only [World.size_alloc, World.size_drew]; omega))) hb.size)
  replace B := hid (bt B.out hb)
  clear hb
  have xa0 : w2.cell? ⟨w.heap.size, 0, none⟩ = some (.int .u64 a) := Qa.out.cell 0
  have xa1 : w2.cell? ⟨w.heap.size, 1, none⟩ = some (.int .u64 b) := Qa.out.cell 1
  have xa2 : w2.cell? ⟨w.heap.size, 2, none⟩ = some (.int .u64 c) := Qa.out.cell 2
  have xa3 : w2.cell? ⟨w.heap.size, 3, none⟩ = some (.string p) := Qa.out.cell 3
  have xa4 : w2.cell? ⟨w.heap.size, 4, none⟩ = some (.string m) := Qa.out.cell 4
  have xb0 : w2.cell? ⟨w.heap.size + 1, 0, none⟩ = some (.int .u64 a') := Qb.out.cell 0
  have xb1 : w2.cell? ⟨w.heap.size + 1, 1, none⟩ = some (.int .u64 b') := Qb.out.cell 1
  have xb2 : w2.cell? ⟨w.heap.size + 1, 2, none⟩ = some (.int .u64 c') := Qb.out.cell 2
  have xb3 : w2.cell? ⟨w.heap.size + 1, 3, none⟩ = some (.string p') := Qb.out.cell 3
  have xb4 : w2.cell? ⟨w.heap.size + 1, 4, none⟩ = some (.string m') := Qb.out.cell 4
  go_wp2_with fail
  go_ret
  exact ⟨rfl, B.out⟩

set_option maxHeartbeats 800000 in
set_option maxRecDepth 100000 in
theorem wild_bad (a b c : Int) (p m : ByteArray) (k : Int) (a' b' c' : Int) (p' m' : ByteArray) (pre : Bool) (w : World) (hp : p.size ≤ maxLen) (hm : m.size ≤ maxLen) (hp' : p'.size ≤ maxLen) (hm' : m'.size ≤ maxLen) (hv : Vars w) (f1 : fitB p m = true) (f2 : fitB p' m' = true) (s1 : p'.size ≤ 2147483647 ∧ m'.size ≤ 2147483647) (h1 : 0 ≤ k) (h3 : k ≤ 2) (f3 : verOk ⟨0, 0, 0, p', m'⟩ = false) :
    Calls Tryd.prog 11 #[.agg (scells a b c p m), .int .i64 k, .agg (scells a' b' c' p' m'), .bool pre] w fun e w' => e = .returned (.bool true) ∧ Below w.heap.size w w' := by
  have B := hid (show Below w.heap.size w ((w.alloc (.cells #[.int .u64 a, .int .u64 b, .int .u64 c, .string p, .string m] 27)).alloc (.cells #[.int .u64 a', .int .u64 b', .int .u64 c', .string p', .string m'] 27)) by go_grown)
  have Z := hid (show w.heap.size + 2 ≤ ((w.alloc (.cells #[.int .u64 a, .int .u64 b, .int .u64 c, .string p, .string m] 27)).alloc (.cells #[.int .u64 a', .int .u64 b', .int .u64 c', .string p', .string m'] 27)).heap.size by simp only [World.size_alloc]; omega)
  obtain ⟨qa, qb⟩ := two_new w (#[.int .u64 a, .int .u64 b, .int .u64 c, .string p, .string m]) (#[.int .u64 a', .int .u64 b', .int .u64 c', .string p', .string m']) 27 27
  have Qa := hid qa
  have Qb := hid qb
  clear qa qb
  have HV := hid hv
  clear hv
  go_enter Tryd.func11, Tryd.ntmps11
  go_wp2_with fail
  go_at_call 17
  refine (fitB_any a b c p m _ hp hm).mono ?_
  rintro e w1 ⟨rfl, hb⟩
  replace Qa := hid ((Qa.out).below hb)
  replace Qb := hid ((Qb.out).below hb)
  replace Z := hid (Nat.le_trans (Nat.le_trans Z.out (by first | exact Nat.le_refl _ | omega | (simp only [World.size_alloc, World.size_drew]; omega))) hb.size)
  replace B := hid (bt B.out hb)
  clear hb
  have xa0 : w1.cell? ⟨w.heap.size, 0, none⟩ = some (.int .u64 a) := Qa.out.cell 0
  have xa1 : w1.cell? ⟨w.heap.size, 1, none⟩ = some (.int .u64 b) := Qa.out.cell 1
  have xa2 : w1.cell? ⟨w.heap.size, 2, none⟩ = some (.int .u64 c) := Qa.out.cell 2
  have xa3 : w1.cell? ⟨w.heap.size, 3, none⟩ = some (.string p) := Qa.out.cell 3
  have xa4 : w1.cell? ⟨w.heap.size, 4, none⟩ = some (.string m) := Qa.out.cell 4
  have xb0 : w1.cell? ⟨w.heap.size + 1, 0, none⟩ = some (.int .u64 a') := Qb.out.cell 0
  have xb1 : w1.cell? ⟨w.heap.size + 1, 1, none⟩ = some (.int .u64 b') := Qb.out.cell 1
  have xb2 : w1.cell? ⟨w.heap.size + 1, 2, none⟩ = some (.int .u64 c') := Qb.out.cell 2
  have xb3 : w1.cell? ⟨w.heap.size + 1, 3, none⟩ = some (.string p') := Qb.out.cell 3
  have xb4 : w1.cell? ⟨w.heap.size + 1, 4, none⟩ = some (.string m') := Qb.out.cell 4
  go_wp2_with fail
  go_at_call 17
  refine (fitB_any a' b' c' p' m' _ hp' hm').mono ?_
  rintro e w2 ⟨rfl, hb⟩
  replace Qa := hid ((Qa.out).below hb)
  replace Qb := hid ((Qb.out).below hb)
  replace Z := hid (Nat.le_trans (Nat.le_trans Z.out (by first | exact Nat.le_refl _ | omega | (simp only [World.size_alloc, World.size_drew]; omega))) hb.size)
  replace B := hid (bt B.out hb)
  clear hb
  have xa0 : w2.cell? ⟨w.heap.size, 0, none⟩ = some (.int .u64 a) := Qa.out.cell 0
  have xa1 : w2.cell? ⟨w.heap.size, 1, none⟩ = some (.int .u64 b) := Qa.out.cell 1
  have xa2 : w2.cell? ⟨w.heap.size, 2, none⟩ = some (.int .u64 c) := Qa.out.cell 2
  have xa3 : w2.cell? ⟨w.heap.size, 3, none⟩ = some (.string p) := Qa.out.cell 3
  have xa4 : w2.cell? ⟨w.heap.size, 4, none⟩ = some (.string m) := Qa.out.cell 4
  have xb0 : w2.cell? ⟨w.heap.size + 1, 0, none⟩ = some (.int .u64 a') := Qb.out.cell 0
  have xb1 : w2.cell? ⟨w.heap.size + 1, 1, none⟩ = some (.int .u64 b') := Qb.out.cell 1
  have xb2 : w2.cell? ⟨w.heap.size + 1, 2, none⟩ = some (.int .u64 c') := Qb.out.cell 2
  have xb3 : w2.cell? ⟨w.heap.size + 1, 3, none⟩ = some (.string p') := Qb.out.cell 3
  have xb4 : w2.cell? ⟨w.heap.size + 1, 4, none⟩ = some (.string m') := Qb.out.cell 4
  go_wp2_with fail
  go_at_call 19
  refine (svGood1 a' b' c' p' m' s1.1 s1.2 _ _ _ (by simp)).mono ?_
  rintro e w3 ⟨rfl, hb⟩
  replace Qa := hid (((Qa.out.alloc _)).below hb)
  replace Qb := hid (((Qb.out.alloc _)).below hb)
  replace Z := hid (Nat.le_trans (Nat.le_trans Z.out (by first | exact Nat.le_refl _ | omega | (simp only [World.size_alloc, World.size_drew]; omega))) hb.size)
  replace B := hid (bt (B.out.alloc (by have := B.out.size; first | omega | (simp only [World.size_alloc]; omega)) _) hb)
  clear hb
  have xa0 : w3.cell? ⟨w.heap.size, 0, none⟩ = some (.int .u64 a) := Qa.out.cell 0
  have xa1 : w3.cell? ⟨w.heap.size, 1, none⟩ = some (.int .u64 b) := Qa.out.cell 1
  have xa2 : w3.cell? ⟨w.heap.size, 2, none⟩ = some (.int .u64 c) := Qa.out.cell 2
  have xa3 : w3.cell? ⟨w.heap.size, 3, none⟩ = some (.string p) := Qa.out.cell 3
  have xa4 : w3.cell? ⟨w.heap.size, 4, none⟩ = some (.string m) := Qa.out.cell 4
  have xb0 : w3.cell? ⟨w.heap.size + 1, 0, none⟩ = some (.int .u64 a') := Qb.out.cell 0
  have xb1 : w3.cell? ⟨w.heap.size + 1, 1, none⟩ = some (.int .u64 b') := Qb.out.cell 1
  have xb2 : w3.cell? ⟨w.heap.size + 1, 2, none⟩ = some (.int .u64 c') := Qb.out.cell 2
  have xb3 : w3.cell? ⟨w.heap.size + 1, 3, none⟩ = some (.string p') := Qb.out.cell 3
  have xb4 : w3.cell? ⟨w.heap.size + 1, 4, none⟩ = some (.string m') := Qb.out.cell 4
  go_wp2_with fail
  go_ret
  exact ⟨rfl, B.out⟩

theorem termHolds_at (o k : Nat) (ho : o < 8) (hk : k ≤ 3) (oi ki : Int) (eo : oi = o) (ek : ki = k) (a b c : Int) (p m : ByteArray) (a' b' c' : Int) (p' : ByteArray) (pre r : Bool) (w : World) (hv : Vars w)
    (hr : ∀ g h, OpIs (opF o) g h a b c p m a' b' c' p' ByteArray.empty (opS o) ByteArray.empty (k == 1) (decide (k < 3)) (k == 2) pre r) :
    Calls Tryd.prog 35 #[.agg #[.int .i64 oi, .int .i64 ki, .int .u64 a', .int .u64 b', .int .u64 c', .string p'], .agg (scells a b c p m), .bool pre] w fun e w' => e = .returned (.bool r) ∧ Below w.heap.size w w' := by
  subst eo ek
  exact termHolds_any o k ho hk a b c p m a' b' c' p' pre r w hv hr

set_option maxHeartbeats 800000 in
set_option maxRecDepth 100000 in
theorem wild_0 (a b c : Int) (p m : ByteArray) (a' b' c' : Int) (p' m' : ByteArray) (pre : Bool) (w : World) (hp : p.size ≤ maxLen) (hm : m.size ≤ maxLen) (hp' : p'.size ≤ maxLen) (hm' : m'.size ≤ maxLen) (hv : Vars w) (f1 : fitB p m = true) (f2 : fitB p' m' = true) (s1 : p'.size ≤ 2147483647 ∧ m'.size ≤ 2147483647) (f3 : verOk ⟨0, 0, 0, p', m'⟩ = true) (r : Bool) (hr6 : ∀ g h, OpIs (opF 6) g h a' b' c' p' m' 0 0 0 ByteArray.empty ByteArray.empty (opS 6) ByteArray.empty (0 == 1) (decide (0 < 3)) (0 == 2) pre r) (hr0 : ∀ g h, OpIs (opF 0) g h a' b' c' p' m' 0 0 0 ByteArray.empty ByteArray.empty (opS 0) ByteArray.empty (0 == 1) (decide (0 < 3)) (0 == 2) pre r) (hr3 : ∀ g h, OpIs (opF 0) g h a 0 0 ByteArray.empty ByteArray.empty 0 0 0 ByteArray.empty ByteArray.empty (opS 0) ByteArray.empty (0 == 1) (decide (0 < 3)) (0 == 2) pre true) :
    Calls Tryd.prog 11 #[.agg (scells a b c p m), .int .i64 0, .agg (scells a' b' c' p' m'), .bool pre] w fun e w' => e = .returned (.bool true) ∧ Below w.heap.size w w' := by
  have B := hid (show Below w.heap.size w ((w.alloc (.cells #[.int .u64 a, .int .u64 b, .int .u64 c, .string p, .string m] 27)).alloc (.cells #[.int .u64 a', .int .u64 b', .int .u64 c', .string p', .string m'] 27)) by go_grown)
  have Z := hid (show w.heap.size + 2 ≤ ((w.alloc (.cells #[.int .u64 a, .int .u64 b, .int .u64 c, .string p, .string m] 27)).alloc (.cells #[.int .u64 a', .int .u64 b', .int .u64 c', .string p', .string m'] 27)).heap.size by simp only [World.size_alloc]; omega)
  obtain ⟨qa, qb⟩ := two_new w (#[.int .u64 a, .int .u64 b, .int .u64 c, .string p, .string m]) (#[.int .u64 a', .int .u64 b', .int .u64 c', .string p', .string m']) 27 27
  have Qa := hid qa
  have Qb := hid qb
  clear qa qb
  have HV := hid hv
  clear hv
  have HR6 := hid hr6
  clear hr6
  have HR0 := hid hr0
  clear hr0
  have HR3 := hid hr3
  clear hr3
  go_enter Tryd.func11, Tryd.ntmps11
  go_wp2_with fail
  go_at_call 17
  refine (fitB_any a b c p m _ hp hm).mono ?_
  rintro e w1 ⟨rfl, hb⟩
  replace Qa := hid ((Qa.out).below hb)
  replace Qb := hid ((Qb.out).below hb)
  replace Z := hid (Nat.le_trans (Nat.le_trans Z.out (by first | exact Nat.le_refl _ | omega | (simp only [World.size_alloc, World.size_drew]; omega))) hb.size)
  replace B := hid (bt B.out hb)
  clear hb
  have xa0 : w1.cell? ⟨w.heap.size, 0, none⟩ = some (.int .u64 a) := Qa.out.cell 0
  have xa1 : w1.cell? ⟨w.heap.size, 1, none⟩ = some (.int .u64 b) := Qa.out.cell 1
  have xa2 : w1.cell? ⟨w.heap.size, 2, none⟩ = some (.int .u64 c) := Qa.out.cell 2
  have xa3 : w1.cell? ⟨w.heap.size, 3, none⟩ = some (.string p) := Qa.out.cell 3
  have xa4 : w1.cell? ⟨w.heap.size, 4, none⟩ = some (.string m) := Qa.out.cell 4
  have xb0 : w1.cell? ⟨w.heap.size + 1, 0, none⟩ = some (.int .u64 a') := Qb.out.cell 0
  have xb1 : w1.cell? ⟨w.heap.size + 1, 1, none⟩ = some (.int .u64 b') := Qb.out.cell 1
  have xb2 : w1.cell? ⟨w.heap.size + 1, 2, none⟩ = some (.int .u64 c') := Qb.out.cell 2
  have xb3 : w1.cell? ⟨w.heap.size + 1, 3, none⟩ = some (.string p') := Qb.out.cell 3
  have xb4 : w1.cell? ⟨w.heap.size + 1, 4, none⟩ = some (.string m') := Qb.out.cell 4
  go_wp2_with fail
  go_at_call 17
  refine (fitB_any a' b' c' p' m' _ hp' hm').mono ?_
  rintro e w2 ⟨rfl, hb⟩
  replace Qa := hid ((Qa.out).below hb)
  replace Qb := hid ((Qb.out).below hb)
  replace Z := hid (Nat.le_trans (Nat.le_trans Z.out (by first | exact Nat.le_refl _ | omega | (simp only [World.size_alloc, World.size_drew]; omega))) hb.size)
  replace B := hid (bt B.out hb)
  clear hb
  have xa0 : w2.cell? ⟨w.heap.size, 0, none⟩ = some (.int .u64 a) := Qa.out.cell 0
  have xa1 : w2.cell? ⟨w.heap.size, 1, none⟩ = some (.int .u64 b) := Qa.out.cell 1
  have xa2 : w2.cell? ⟨w.heap.size, 2, none⟩ = some (.int .u64 c) := Qa.out.cell 2
  have xa3 : w2.cell? ⟨w.heap.size, 3, none⟩ = some (.string p) := Qa.out.cell 3
  have xa4 : w2.cell? ⟨w.heap.size, 4, none⟩ = some (.string m) := Qa.out.cell 4
  have xb0 : w2.cell? ⟨w.heap.size + 1, 0, none⟩ = some (.int .u64 a') := Qb.out.cell 0
  have xb1 : w2.cell? ⟨w.heap.size + 1, 1, none⟩ = some (.int .u64 b') := Qb.out.cell 1
  have xb2 : w2.cell? ⟨w.heap.size + 1, 2, none⟩ = some (.int .u64 c') := Qb.out.cell 2
  have xb3 : w2.cell? ⟨w.heap.size + 1, 3, none⟩ = some (.string p') := Qb.out.cell 3
  have xb4 : w2.cell? ⟨w.heap.size + 1, 4, none⟩ = some (.string m') := Qb.out.cell 4
  go_wp2_with fail
  go_at_call 19
  refine (svGood1 a' b' c' p' m' s1.1 s1.2 _ _ _ (by simp)).mono ?_
  rintro e w3 ⟨rfl, hb⟩
  replace Qa := hid (((Qa.out.alloc _)).below hb)
  replace Qb := hid (((Qb.out.alloc _)).below hb)
  replace Z := hid (Nat.le_trans (Nat.le_trans Z.out (by first | exact Nat.le_refl _ | omega | (simp only [World.size_alloc, World.size_drew]; omega))) hb.size)
  replace B := hid (bt (B.out.alloc (by have := B.out.size; first | omega | (simp only [World.size_alloc]; omega)) _) hb)
  clear hb
  have xa0 : w3.cell? ⟨w.heap.size, 0, none⟩ = some (.int .u64 a) := Qa.out.cell 0
  have xa1 : w3.cell? ⟨w.heap.size, 1, none⟩ = some (.int .u64 b) := Qa.out.cell 1
  have xa2 : w3.cell? ⟨w.heap.size, 2, none⟩ = some (.int .u64 c) := Qa.out.cell 2
  have xa3 : w3.cell? ⟨w.heap.size, 3, none⟩ = some (.string p) := Qa.out.cell 3
  have xa4 : w3.cell? ⟨w.heap.size, 4, none⟩ = some (.string m) := Qa.out.cell 4
  have xb0 : w3.cell? ⟨w.heap.size + 1, 0, none⟩ = some (.int .u64 a') := Qb.out.cell 0
  have xb1 : w3.cell? ⟨w.heap.size + 1, 1, none⟩ = some (.int .u64 b') := Qb.out.cell 1
  have xb2 : w3.cell? ⟨w.heap.size + 1, 2, none⟩ = some (.int .u64 c') := Qb.out.cell 2
  have xb3 : w3.cell? ⟨w.heap.size + 1, 3, none⟩ = some (.string p') := Qb.out.cell 3
  have xb4 : w3.cell? ⟨w.heap.size + 1, 4, none⟩ = some (.string m') := Qb.out.cell 4
  go_wp2_with fail
  go_at_call 36
  refine (stTerm_0 6 a b c p m _).mono ?_
  rintro e w4 ⟨rfl, hb⟩
  replace Qa := hid ((Qa.out).below hb)
  replace Qb := hid ((Qb.out).below hb)
  replace Z := hid (Nat.le_trans (Nat.le_trans Z.out (by first | exact Nat.le_refl _ | omega | (simp only [World.size_alloc, World.size_drew]; omega))) hb.size)
  replace B := hid (bt B.out hb)
  clear hb
  have xa0 : w4.cell? ⟨w.heap.size, 0, none⟩ = some (.int .u64 a) := Qa.out.cell 0
  have xa1 : w4.cell? ⟨w.heap.size, 1, none⟩ = some (.int .u64 b) := Qa.out.cell 1
  have xa2 : w4.cell? ⟨w.heap.size, 2, none⟩ = some (.int .u64 c) := Qa.out.cell 2
  have xa3 : w4.cell? ⟨w.heap.size, 3, none⟩ = some (.string p) := Qa.out.cell 3
  have xa4 : w4.cell? ⟨w.heap.size, 4, none⟩ = some (.string m) := Qa.out.cell 4
  have xb0 : w4.cell? ⟨w.heap.size + 1, 0, none⟩ = some (.int .u64 a') := Qb.out.cell 0
  have xb1 : w4.cell? ⟨w.heap.size + 1, 1, none⟩ = some (.int .u64 b') := Qb.out.cell 1
  have xb2 : w4.cell? ⟨w.heap.size + 1, 2, none⟩ = some (.int .u64 c') := Qb.out.cell 2
  have xb3 : w4.cell? ⟨w.heap.size + 1, 3, none⟩ = some (.string p') := Qb.out.cell 3
  have xb4 : w4.cell? ⟨w.heap.size + 1, 4, none⟩ = some (.string m') := Qb.out.cell 4
  have hz0 : w.heap.size < w4.heap.size := by have := Z.out; omega
  have hz1 : w.heap.size + 1 < w4.heap.size := by have := Z.out; omega
  go_wp2_with fail
  have Z4 := hid Z.out
  go_at_call 35
  refine (termHolds_at 6 0 (by omega) (by omega) 6 0 rfl rfl a' b' c' p' m' 0 0 0 ByteArray.empty pre r _ (HV.out.below (B.out.alloc (by have := B.out.size; omega) _)) HR6.out).mono ?_
  rintro e w5 ⟨rfl, hb⟩
  replace Qa := hid (((Qa.out.alloc _)).below hb)
  replace Qb := hid (((Qb.out.alloc _)).below hb)
  have Qt := hid (((Blk.new _ _ _)).below hb)
  replace Z := hid (Nat.le_trans (Nat.le_trans Z.out (by first | exact Nat.le_refl _ | omega | (simp only [World.size_alloc, World.size_drew]; omega))) hb.size)
  replace B := hid (bt (B.out.alloc (by have := B.out.size; first | omega | (simp only [World.size_alloc]; omega)) _) hb)
  clear hb
  have ft : w5.frozen? ⟨w4.heap.size, 0, none⟩ = false := Qt.out.frozen 0
  have xa0 : w5.cell? ⟨w.heap.size, 0, none⟩ = some (.int .u64 a) := Qa.out.cell 0
  have xa1 : w5.cell? ⟨w.heap.size, 1, none⟩ = some (.int .u64 b) := Qa.out.cell 1
  have xa2 : w5.cell? ⟨w.heap.size, 2, none⟩ = some (.int .u64 c) := Qa.out.cell 2
  have xa3 : w5.cell? ⟨w.heap.size, 3, none⟩ = some (.string p) := Qa.out.cell 3
  have xa4 : w5.cell? ⟨w.heap.size, 4, none⟩ = some (.string m) := Qa.out.cell 4
  have xb0 : w5.cell? ⟨w.heap.size + 1, 0, none⟩ = some (.int .u64 a') := Qb.out.cell 0
  have xb1 : w5.cell? ⟨w.heap.size + 1, 1, none⟩ = some (.int .u64 b') := Qb.out.cell 1
  have xb2 : w5.cell? ⟨w.heap.size + 1, 2, none⟩ = some (.int .u64 c') := Qb.out.cell 2
  have xb3 : w5.cell? ⟨w.heap.size + 1, 3, none⟩ = some (.string p') := Qb.out.cell 3
  have xb4 : w5.cell? ⟨w.heap.size + 1, 4, none⟩ = some (.string m') := Qb.out.cell 4
  have xt0 : w5.cell? ⟨w4.heap.size, 0, none⟩ = some (.int .i64 6) := Qt.out.cell 0
  have xt1 : w5.cell? ⟨w4.heap.size, 1, none⟩ = some (.int .i64 0) := Qt.out.cell 1
  have xt2 : w5.cell? ⟨w4.heap.size, 2, none⟩ = some (.int .u64 0) := Qt.out.cell 2
  have xt3 : w5.cell? ⟨w4.heap.size, 3, none⟩ = some (.int .u64 0) := Qt.out.cell 3
  have xt4 : w5.cell? ⟨w4.heap.size, 4, none⟩ = some (.int .u64 0) := Qt.out.cell 4
  have xt5 : w5.cell? ⟨w4.heap.size, 5, none⟩ = some (.string ByteArray.empty) := Qt.out.cell 5
  go_wp2_with fail
  have Rt := hid (show Blk (w5.setCell ⟨w4.heap.size, 0, none⟩ (.int .i64 0)) w4.heap.size 36 #[.int .i64 0, .int .i64 0, .int .u64 0, .int .u64 0, .int .u64 0, .string ByteArray.empty] from Qt.out.set 0 _)
  have Ra := hid (Qa.out.other (by have := Z4.out; omega) 0 (.int .i64 0) (h := w4.heap.size))
  have Rb := hid (Qb.out.other (by have := Z4.out; omega) 0 (.int .i64 0) (h := w4.heap.size))
  have B6 := hid (below_set B.out (by have := Z4.out; omega) 0 (.int .i64 0) (g := w4.heap.size))
  generalize w5.setCell ⟨w4.heap.size, 0, none⟩ (.int .i64 0) = w6 at *
  have C1 := hid (fun d os => Calls.regrown_of (termHolds_at 0 0 (by omega) (by omega) 0 0 rfl rfl a' b' c' p' m' 0 0 0 ByteArray.empty pre r (Go.Sort.grow (redrawn w6 d) os) (HV.out.below (bt B6.out (below_regrown w6 d os))) HR0.out))
  have C2 := hid (fun d os => Calls.regrown_of (scFirst_0 a b c p m (Go.Sort.grow (redrawn w6 d) os)))
  have C3 := hid (fun d os => Calls.regrown_of (termHolds_at 0 0 (by omega) (by omega) 0 0 rfl rfl a 0 0 ByteArray.empty ByteArray.empty 0 0 0 ByteArray.empty pre true (Go.Sort.grow (redrawn w6 d) os) (HV.out.below (bt B6.out (below_regrown w6 d os))) HR3.out))
  have kRt0 : ∀ d os, (Go.Sort.grow (redrawn w6 d) os).cell? ⟨w4.heap.size, 0, none⟩ = some (.int .i64 0) := fun d os => (blk_gr Rt.out d os).cell 0
  have kRt1 : ∀ d os, (Go.Sort.grow (redrawn w6 d) os).cell? ⟨w4.heap.size, 1, none⟩ = some (.int .i64 0) := fun d os => (blk_gr Rt.out d os).cell 1
  have kRt2 : ∀ d os, (Go.Sort.grow (redrawn w6 d) os).cell? ⟨w4.heap.size, 2, none⟩ = some (.int .u64 0) := fun d os => (blk_gr Rt.out d os).cell 2
  have kRt3 : ∀ d os, (Go.Sort.grow (redrawn w6 d) os).cell? ⟨w4.heap.size, 3, none⟩ = some (.int .u64 0) := fun d os => (blk_gr Rt.out d os).cell 3
  have kRt4 : ∀ d os, (Go.Sort.grow (redrawn w6 d) os).cell? ⟨w4.heap.size, 4, none⟩ = some (.int .u64 0) := fun d os => (blk_gr Rt.out d os).cell 4
  have kRt5 : ∀ d os, (Go.Sort.grow (redrawn w6 d) os).cell? ⟨w4.heap.size, 5, none⟩ = some (.string ByteArray.empty) := fun d os => (blk_gr Rt.out d os).cell 5
  have kRa0 : ∀ d os, (Go.Sort.grow (redrawn w6 d) os).cell? ⟨w.heap.size, 0, none⟩ = some (.int .u64 a) := fun d os => (blk_gr Ra.out d os).cell 0
  have kRa1 : ∀ d os, (Go.Sort.grow (redrawn w6 d) os).cell? ⟨w.heap.size, 1, none⟩ = some (.int .u64 b) := fun d os => (blk_gr Ra.out d os).cell 1
  have kRa2 : ∀ d os, (Go.Sort.grow (redrawn w6 d) os).cell? ⟨w.heap.size, 2, none⟩ = some (.int .u64 c) := fun d os => (blk_gr Ra.out d os).cell 2
  have kRa3 : ∀ d os, (Go.Sort.grow (redrawn w6 d) os).cell? ⟨w.heap.size, 3, none⟩ = some (.string p) := fun d os => (blk_gr Ra.out d os).cell 3
  have kRa4 : ∀ d os, (Go.Sort.grow (redrawn w6 d) os).cell? ⟨w.heap.size, 4, none⟩ = some (.string m) := fun d os => (blk_gr Ra.out d os).cell 4
  have kRb0 : ∀ d os, (Go.Sort.grow (redrawn w6 d) os).cell? ⟨w.heap.size + 1, 0, none⟩ = some (.int .u64 a') := fun d os => (blk_gr Rb.out d os).cell 0
  have kRb1 : ∀ d os, (Go.Sort.grow (redrawn w6 d) os).cell? ⟨w.heap.size + 1, 1, none⟩ = some (.int .u64 b') := fun d os => (blk_gr Rb.out d os).cell 1
  have kRb2 : ∀ d os, (Go.Sort.grow (redrawn w6 d) os).cell? ⟨w.heap.size + 1, 2, none⟩ = some (.int .u64 c') := fun d os => (blk_gr Rb.out d os).cell 2
  have kRb3 : ∀ d os, (Go.Sort.grow (redrawn w6 d) os).cell? ⟨w.heap.size + 1, 3, none⟩ = some (.string p') := fun d os => (blk_gr Rb.out d os).cell 3
  have kRb4 : ∀ d os, (Go.Sort.grow (redrawn w6 d) os).cell? ⟨w.heap.size + 1, 4, none⟩ = some (.string m') := fun d os => (blk_gr Rb.out d os).cell 4
  refine wp_region_quiet_below (by kernel_rfl) (by kernel_rfl) ?_
  repeat (go_big_quiet_step ((first | (go_at_call_of 35 (Value.string m'); exact C1.out _ _) | (go_at_call 37; exact C2.out _ _) | (go_at_call 35; exact C3.out _ _) | fail)))
  refine wpQuiet_nil ?_
  intro _ hw'
  obtain ⟨⟨dq, osq⟩, hw''⟩ := hw'
  subst hw''
  go_wp2_with fail
  go_ret
  exact ⟨rfl, bt B6.out (below_regrown _ _ _)⟩

set_option maxHeartbeats 800000 in
set_option maxRecDepth 100000 in
theorem wild_1 (a b c : Int) (p m : ByteArray) (a' b' c' : Int) (p' m' : ByteArray) (pre : Bool) (w : World) (hp : p.size ≤ maxLen) (hm : m.size ≤ maxLen) (hp' : p'.size ≤ maxLen) (hm' : m'.size ≤ maxLen) (hv : Vars w) (f1 : fitB p m = true) (f2 : fitB p' m' = true) (s1 : p'.size ≤ 2147483647 ∧ m'.size ≤ 2147483647) (f3 : verOk ⟨0, 0, 0, p', m'⟩ = true) (r : Bool) (hr6 : ∀ g h, OpIs (opF 6) g h a' b' c' p' m' a 0 0 ByteArray.empty ByteArray.empty (opS 6) ByteArray.empty (1 == 1) (decide (1 < 3)) (1 == 2) pre r) (hr0 : ∀ g h, OpIs (opF 0) g h a' b' c' p' m' a 0 0 ByteArray.empty ByteArray.empty (opS 0) ByteArray.empty (1 == 1) (decide (1 < 3)) (1 == 2) pre r) (hr3 : ∀ g h, OpIs (opF 0) g h a 0 0 ByteArray.empty ByteArray.empty a 0 0 ByteArray.empty ByteArray.empty (opS 0) ByteArray.empty (1 == 1) (decide (1 < 3)) (1 == 2) pre true) :
    Calls Tryd.prog 11 #[.agg (scells a b c p m), .int .i64 1, .agg (scells a' b' c' p' m'), .bool pre] w fun e w' => e = .returned (.bool true) ∧ Below w.heap.size w w' := by
  have B := hid (show Below w.heap.size w ((w.alloc (.cells #[.int .u64 a, .int .u64 b, .int .u64 c, .string p, .string m] 27)).alloc (.cells #[.int .u64 a', .int .u64 b', .int .u64 c', .string p', .string m'] 27)) by go_grown)
  have Z := hid (show w.heap.size + 2 ≤ ((w.alloc (.cells #[.int .u64 a, .int .u64 b, .int .u64 c, .string p, .string m] 27)).alloc (.cells #[.int .u64 a', .int .u64 b', .int .u64 c', .string p', .string m'] 27)).heap.size by simp only [World.size_alloc]; omega)
  obtain ⟨qa, qb⟩ := two_new w (#[.int .u64 a, .int .u64 b, .int .u64 c, .string p, .string m]) (#[.int .u64 a', .int .u64 b', .int .u64 c', .string p', .string m']) 27 27
  have Qa := hid qa
  have Qb := hid qb
  clear qa qb
  have HV := hid hv
  clear hv
  have HR6 := hid hr6
  clear hr6
  have HR0 := hid hr0
  clear hr0
  have HR3 := hid hr3
  clear hr3
  go_enter Tryd.func11, Tryd.ntmps11
  go_wp2_with fail
  go_at_call 17
  refine (fitB_any a b c p m _ hp hm).mono ?_
  rintro e w1 ⟨rfl, hb⟩
  replace Qa := hid ((Qa.out).below hb)
  replace Qb := hid ((Qb.out).below hb)
  replace Z := hid (Nat.le_trans (Nat.le_trans Z.out (by first | exact Nat.le_refl _ | omega | (simp only [World.size_alloc, World.size_drew]; omega))) hb.size)
  replace B := hid (bt B.out hb)
  clear hb
  have xa0 : w1.cell? ⟨w.heap.size, 0, none⟩ = some (.int .u64 a) := Qa.out.cell 0
  have xa1 : w1.cell? ⟨w.heap.size, 1, none⟩ = some (.int .u64 b) := Qa.out.cell 1
  have xa2 : w1.cell? ⟨w.heap.size, 2, none⟩ = some (.int .u64 c) := Qa.out.cell 2
  have xa3 : w1.cell? ⟨w.heap.size, 3, none⟩ = some (.string p) := Qa.out.cell 3
  have xa4 : w1.cell? ⟨w.heap.size, 4, none⟩ = some (.string m) := Qa.out.cell 4
  have xb0 : w1.cell? ⟨w.heap.size + 1, 0, none⟩ = some (.int .u64 a') := Qb.out.cell 0
  have xb1 : w1.cell? ⟨w.heap.size + 1, 1, none⟩ = some (.int .u64 b') := Qb.out.cell 1
  have xb2 : w1.cell? ⟨w.heap.size + 1, 2, none⟩ = some (.int .u64 c') := Qb.out.cell 2
  have xb3 : w1.cell? ⟨w.heap.size + 1, 3, none⟩ = some (.string p') := Qb.out.cell 3
  have xb4 : w1.cell? ⟨w.heap.size + 1, 4, none⟩ = some (.string m') := Qb.out.cell 4
  go_wp2_with fail
  go_at_call 17
  refine (fitB_any a' b' c' p' m' _ hp' hm').mono ?_
  rintro e w2 ⟨rfl, hb⟩
  replace Qa := hid ((Qa.out).below hb)
  replace Qb := hid ((Qb.out).below hb)
  replace Z := hid (Nat.le_trans (Nat.le_trans Z.out (by first | exact Nat.le_refl _ | omega | (simp only [World.size_alloc, World.size_drew]; omega))) hb.size)
  replace B := hid (bt B.out hb)
  clear hb
  have xa0 : w2.cell? ⟨w.heap.size, 0, none⟩ = some (.int .u64 a) := Qa.out.cell 0
  have xa1 : w2.cell? ⟨w.heap.size, 1, none⟩ = some (.int .u64 b) := Qa.out.cell 1
  have xa2 : w2.cell? ⟨w.heap.size, 2, none⟩ = some (.int .u64 c) := Qa.out.cell 2
  have xa3 : w2.cell? ⟨w.heap.size, 3, none⟩ = some (.string p) := Qa.out.cell 3
  have xa4 : w2.cell? ⟨w.heap.size, 4, none⟩ = some (.string m) := Qa.out.cell 4
  have xb0 : w2.cell? ⟨w.heap.size + 1, 0, none⟩ = some (.int .u64 a') := Qb.out.cell 0
  have xb1 : w2.cell? ⟨w.heap.size + 1, 1, none⟩ = some (.int .u64 b') := Qb.out.cell 1
  have xb2 : w2.cell? ⟨w.heap.size + 1, 2, none⟩ = some (.int .u64 c') := Qb.out.cell 2
  have xb3 : w2.cell? ⟨w.heap.size + 1, 3, none⟩ = some (.string p') := Qb.out.cell 3
  have xb4 : w2.cell? ⟨w.heap.size + 1, 4, none⟩ = some (.string m') := Qb.out.cell 4
  go_wp2_with fail
  go_at_call 19
  refine (svGood1 a' b' c' p' m' s1.1 s1.2 _ _ _ (by simp)).mono ?_
  rintro e w3 ⟨rfl, hb⟩
  replace Qa := hid (((Qa.out.alloc _)).below hb)
  replace Qb := hid (((Qb.out.alloc _)).below hb)
  replace Z := hid (Nat.le_trans (Nat.le_trans Z.out (by first | exact Nat.le_refl _ | omega | (simp only [World.size_alloc, World.size_drew]; omega))) hb.size)
  replace B := hid (bt (B.out.alloc (by have := B.out.size; first | omega | (simp only [World.size_alloc]; omega)) _) hb)
  clear hb
  have xa0 : w3.cell? ⟨w.heap.size, 0, none⟩ = some (.int .u64 a) := Qa.out.cell 0
  have xa1 : w3.cell? ⟨w.heap.size, 1, none⟩ = some (.int .u64 b) := Qa.out.cell 1
  have xa2 : w3.cell? ⟨w.heap.size, 2, none⟩ = some (.int .u64 c) := Qa.out.cell 2
  have xa3 : w3.cell? ⟨w.heap.size, 3, none⟩ = some (.string p) := Qa.out.cell 3
  have xa4 : w3.cell? ⟨w.heap.size, 4, none⟩ = some (.string m) := Qa.out.cell 4
  have xb0 : w3.cell? ⟨w.heap.size + 1, 0, none⟩ = some (.int .u64 a') := Qb.out.cell 0
  have xb1 : w3.cell? ⟨w.heap.size + 1, 1, none⟩ = some (.int .u64 b') := Qb.out.cell 1
  have xb2 : w3.cell? ⟨w.heap.size + 1, 2, none⟩ = some (.int .u64 c') := Qb.out.cell 2
  have xb3 : w3.cell? ⟨w.heap.size + 1, 3, none⟩ = some (.string p') := Qb.out.cell 3
  have xb4 : w3.cell? ⟨w.heap.size + 1, 4, none⟩ = some (.string m') := Qb.out.cell 4
  go_wp2_with fail
  go_at_call 36
  refine (stTerm_1 6 a b c p m _).mono ?_
  rintro e w4 ⟨rfl, hb⟩
  replace Qa := hid ((Qa.out).below hb)
  replace Qb := hid ((Qb.out).below hb)
  replace Z := hid (Nat.le_trans (Nat.le_trans Z.out (by first | exact Nat.le_refl _ | omega | (simp only [World.size_alloc, World.size_drew]; omega))) hb.size)
  replace B := hid (bt B.out hb)
  clear hb
  have xa0 : w4.cell? ⟨w.heap.size, 0, none⟩ = some (.int .u64 a) := Qa.out.cell 0
  have xa1 : w4.cell? ⟨w.heap.size, 1, none⟩ = some (.int .u64 b) := Qa.out.cell 1
  have xa2 : w4.cell? ⟨w.heap.size, 2, none⟩ = some (.int .u64 c) := Qa.out.cell 2
  have xa3 : w4.cell? ⟨w.heap.size, 3, none⟩ = some (.string p) := Qa.out.cell 3
  have xa4 : w4.cell? ⟨w.heap.size, 4, none⟩ = some (.string m) := Qa.out.cell 4
  have xb0 : w4.cell? ⟨w.heap.size + 1, 0, none⟩ = some (.int .u64 a') := Qb.out.cell 0
  have xb1 : w4.cell? ⟨w.heap.size + 1, 1, none⟩ = some (.int .u64 b') := Qb.out.cell 1
  have xb2 : w4.cell? ⟨w.heap.size + 1, 2, none⟩ = some (.int .u64 c') := Qb.out.cell 2
  have xb3 : w4.cell? ⟨w.heap.size + 1, 3, none⟩ = some (.string p') := Qb.out.cell 3
  have xb4 : w4.cell? ⟨w.heap.size + 1, 4, none⟩ = some (.string m') := Qb.out.cell 4
  have hz0 : w.heap.size < w4.heap.size := by have := Z.out; omega
  have hz1 : w.heap.size + 1 < w4.heap.size := by have := Z.out; omega
  go_wp2_with fail
  have Z4 := hid Z.out
  go_at_call 35
  refine (termHolds_at 6 1 (by omega) (by omega) 6 1 rfl rfl a' b' c' p' m' a 0 0 ByteArray.empty pre r _ (HV.out.below (B.out.alloc (by have := B.out.size; omega) _)) HR6.out).mono ?_
  rintro e w5 ⟨rfl, hb⟩
  replace Qa := hid (((Qa.out.alloc _)).below hb)
  replace Qb := hid (((Qb.out.alloc _)).below hb)
  have Qt := hid (((Blk.new _ _ _)).below hb)
  replace Z := hid (Nat.le_trans (Nat.le_trans Z.out (by first | exact Nat.le_refl _ | omega | (simp only [World.size_alloc, World.size_drew]; omega))) hb.size)
  replace B := hid (bt (B.out.alloc (by have := B.out.size; first | omega | (simp only [World.size_alloc]; omega)) _) hb)
  clear hb
  have ft : w5.frozen? ⟨w4.heap.size, 0, none⟩ = false := Qt.out.frozen 0
  have xa0 : w5.cell? ⟨w.heap.size, 0, none⟩ = some (.int .u64 a) := Qa.out.cell 0
  have xa1 : w5.cell? ⟨w.heap.size, 1, none⟩ = some (.int .u64 b) := Qa.out.cell 1
  have xa2 : w5.cell? ⟨w.heap.size, 2, none⟩ = some (.int .u64 c) := Qa.out.cell 2
  have xa3 : w5.cell? ⟨w.heap.size, 3, none⟩ = some (.string p) := Qa.out.cell 3
  have xa4 : w5.cell? ⟨w.heap.size, 4, none⟩ = some (.string m) := Qa.out.cell 4
  have xb0 : w5.cell? ⟨w.heap.size + 1, 0, none⟩ = some (.int .u64 a') := Qb.out.cell 0
  have xb1 : w5.cell? ⟨w.heap.size + 1, 1, none⟩ = some (.int .u64 b') := Qb.out.cell 1
  have xb2 : w5.cell? ⟨w.heap.size + 1, 2, none⟩ = some (.int .u64 c') := Qb.out.cell 2
  have xb3 : w5.cell? ⟨w.heap.size + 1, 3, none⟩ = some (.string p') := Qb.out.cell 3
  have xb4 : w5.cell? ⟨w.heap.size + 1, 4, none⟩ = some (.string m') := Qb.out.cell 4
  have xt0 : w5.cell? ⟨w4.heap.size, 0, none⟩ = some (.int .i64 6) := Qt.out.cell 0
  have xt1 : w5.cell? ⟨w4.heap.size, 1, none⟩ = some (.int .i64 1) := Qt.out.cell 1
  have xt2 : w5.cell? ⟨w4.heap.size, 2, none⟩ = some (.int .u64 a) := Qt.out.cell 2
  have xt3 : w5.cell? ⟨w4.heap.size, 3, none⟩ = some (.int .u64 0) := Qt.out.cell 3
  have xt4 : w5.cell? ⟨w4.heap.size, 4, none⟩ = some (.int .u64 0) := Qt.out.cell 4
  have xt5 : w5.cell? ⟨w4.heap.size, 5, none⟩ = some (.string ByteArray.empty) := Qt.out.cell 5
  go_wp2_with fail
  have Rt := hid (show Blk (w5.setCell ⟨w4.heap.size, 0, none⟩ (.int .i64 0)) w4.heap.size 36 #[.int .i64 0, .int .i64 1, .int .u64 a, .int .u64 0, .int .u64 0, .string ByteArray.empty] from Qt.out.set 0 _)
  have Ra := hid (Qa.out.other (by have := Z4.out; omega) 0 (.int .i64 0) (h := w4.heap.size))
  have Rb := hid (Qb.out.other (by have := Z4.out; omega) 0 (.int .i64 0) (h := w4.heap.size))
  have B6 := hid (below_set B.out (by have := Z4.out; omega) 0 (.int .i64 0) (g := w4.heap.size))
  generalize w5.setCell ⟨w4.heap.size, 0, none⟩ (.int .i64 0) = w6 at *
  have C1 := hid (fun d os => Calls.regrown_of (termHolds_at 0 1 (by omega) (by omega) 0 1 rfl rfl a' b' c' p' m' a 0 0 ByteArray.empty pre r (Go.Sort.grow (redrawn w6 d) os) (HV.out.below (bt B6.out (below_regrown w6 d os))) HR0.out))
  have C2 := hid (fun d os => Calls.regrown_of (scFirst_1 a b c p m (Go.Sort.grow (redrawn w6 d) os)))
  have C3 := hid (fun d os => Calls.regrown_of (termHolds_at 0 1 (by omega) (by omega) 0 1 rfl rfl a 0 0 ByteArray.empty ByteArray.empty a 0 0 ByteArray.empty pre true (Go.Sort.grow (redrawn w6 d) os) (HV.out.below (bt B6.out (below_regrown w6 d os))) HR3.out))
  have kRt0 : ∀ d os, (Go.Sort.grow (redrawn w6 d) os).cell? ⟨w4.heap.size, 0, none⟩ = some (.int .i64 0) := fun d os => (blk_gr Rt.out d os).cell 0
  have kRt1 : ∀ d os, (Go.Sort.grow (redrawn w6 d) os).cell? ⟨w4.heap.size, 1, none⟩ = some (.int .i64 1) := fun d os => (blk_gr Rt.out d os).cell 1
  have kRt2 : ∀ d os, (Go.Sort.grow (redrawn w6 d) os).cell? ⟨w4.heap.size, 2, none⟩ = some (.int .u64 a) := fun d os => (blk_gr Rt.out d os).cell 2
  have kRt3 : ∀ d os, (Go.Sort.grow (redrawn w6 d) os).cell? ⟨w4.heap.size, 3, none⟩ = some (.int .u64 0) := fun d os => (blk_gr Rt.out d os).cell 3
  have kRt4 : ∀ d os, (Go.Sort.grow (redrawn w6 d) os).cell? ⟨w4.heap.size, 4, none⟩ = some (.int .u64 0) := fun d os => (blk_gr Rt.out d os).cell 4
  have kRt5 : ∀ d os, (Go.Sort.grow (redrawn w6 d) os).cell? ⟨w4.heap.size, 5, none⟩ = some (.string ByteArray.empty) := fun d os => (blk_gr Rt.out d os).cell 5
  have kRa0 : ∀ d os, (Go.Sort.grow (redrawn w6 d) os).cell? ⟨w.heap.size, 0, none⟩ = some (.int .u64 a) := fun d os => (blk_gr Ra.out d os).cell 0
  have kRa1 : ∀ d os, (Go.Sort.grow (redrawn w6 d) os).cell? ⟨w.heap.size, 1, none⟩ = some (.int .u64 b) := fun d os => (blk_gr Ra.out d os).cell 1
  have kRa2 : ∀ d os, (Go.Sort.grow (redrawn w6 d) os).cell? ⟨w.heap.size, 2, none⟩ = some (.int .u64 c) := fun d os => (blk_gr Ra.out d os).cell 2
  have kRa3 : ∀ d os, (Go.Sort.grow (redrawn w6 d) os).cell? ⟨w.heap.size, 3, none⟩ = some (.string p) := fun d os => (blk_gr Ra.out d os).cell 3
  have kRa4 : ∀ d os, (Go.Sort.grow (redrawn w6 d) os).cell? ⟨w.heap.size, 4, none⟩ = some (.string m) := fun d os => (blk_gr Ra.out d os).cell 4
  have kRb0 : ∀ d os, (Go.Sort.grow (redrawn w6 d) os).cell? ⟨w.heap.size + 1, 0, none⟩ = some (.int .u64 a') := fun d os => (blk_gr Rb.out d os).cell 0
  have kRb1 : ∀ d os, (Go.Sort.grow (redrawn w6 d) os).cell? ⟨w.heap.size + 1, 1, none⟩ = some (.int .u64 b') := fun d os => (blk_gr Rb.out d os).cell 1
  have kRb2 : ∀ d os, (Go.Sort.grow (redrawn w6 d) os).cell? ⟨w.heap.size + 1, 2, none⟩ = some (.int .u64 c') := fun d os => (blk_gr Rb.out d os).cell 2
  have kRb3 : ∀ d os, (Go.Sort.grow (redrawn w6 d) os).cell? ⟨w.heap.size + 1, 3, none⟩ = some (.string p') := fun d os => (blk_gr Rb.out d os).cell 3
  have kRb4 : ∀ d os, (Go.Sort.grow (redrawn w6 d) os).cell? ⟨w.heap.size + 1, 4, none⟩ = some (.string m') := fun d os => (blk_gr Rb.out d os).cell 4
  refine wp_region_quiet_below (by kernel_rfl) (by kernel_rfl) ?_
  repeat (go_big_quiet_step ((first | (go_at_call_of 35 (Value.string m'); exact C1.out _ _) | (go_at_call 37; exact C2.out _ _) | (go_at_call 35; exact C3.out _ _) | fail)))
  refine wpQuiet_nil ?_
  intro _ hw'
  obtain ⟨⟨dq, osq⟩, hw''⟩ := hw'
  subst hw''
  go_wp2_with fail
  go_ret
  exact ⟨rfl, bt B6.out (below_regrown _ _ _)⟩

set_option maxHeartbeats 800000 in
set_option maxRecDepth 100000 in
theorem wild_2 (a b c : Int) (p m : ByteArray) (a' b' c' : Int) (p' m' : ByteArray) (pre : Bool) (w : World) (hp : p.size ≤ maxLen) (hm : m.size ≤ maxLen) (hp' : p'.size ≤ maxLen) (hm' : m'.size ≤ maxLen) (hv : Vars w) (f1 : fitB p m = true) (f2 : fitB p' m' = true) (s1 : p'.size ≤ 2147483647 ∧ m'.size ≤ 2147483647) (f3 : verOk ⟨0, 0, 0, p', m'⟩ = true) (r : Bool) (hr6 : ∀ g h, OpIs (opF 6) g h a' b' c' p' m' a b 0 ByteArray.empty ByteArray.empty (opS 6) ByteArray.empty (2 == 1) (decide (2 < 3)) (2 == 2) pre r) (hr0 : ∀ g h, OpIs (opF 0) g h a' b' c' p' m' a b 0 ByteArray.empty ByteArray.empty (opS 0) ByteArray.empty (2 == 1) (decide (2 < 3)) (2 == 2) pre r) (hr3 : ∀ g h, OpIs (opF 0) g h a b 0 ByteArray.empty ByteArray.empty a b 0 ByteArray.empty ByteArray.empty (opS 0) ByteArray.empty (2 == 1) (decide (2 < 3)) (2 == 2) pre true) :
    Calls Tryd.prog 11 #[.agg (scells a b c p m), .int .i64 2, .agg (scells a' b' c' p' m'), .bool pre] w fun e w' => e = .returned (.bool true) ∧ Below w.heap.size w w' := by
  have B := hid (show Below w.heap.size w ((w.alloc (.cells #[.int .u64 a, .int .u64 b, .int .u64 c, .string p, .string m] 27)).alloc (.cells #[.int .u64 a', .int .u64 b', .int .u64 c', .string p', .string m'] 27)) by go_grown)
  have Z := hid (show w.heap.size + 2 ≤ ((w.alloc (.cells #[.int .u64 a, .int .u64 b, .int .u64 c, .string p, .string m] 27)).alloc (.cells #[.int .u64 a', .int .u64 b', .int .u64 c', .string p', .string m'] 27)).heap.size by simp only [World.size_alloc]; omega)
  obtain ⟨qa, qb⟩ := two_new w (#[.int .u64 a, .int .u64 b, .int .u64 c, .string p, .string m]) (#[.int .u64 a', .int .u64 b', .int .u64 c', .string p', .string m']) 27 27
  have Qa := hid qa
  have Qb := hid qb
  clear qa qb
  have HV := hid hv
  clear hv
  have HR6 := hid hr6
  clear hr6
  have HR0 := hid hr0
  clear hr0
  have HR3 := hid hr3
  clear hr3
  go_enter Tryd.func11, Tryd.ntmps11
  go_wp2_with fail
  go_at_call 17
  refine (fitB_any a b c p m _ hp hm).mono ?_
  rintro e w1 ⟨rfl, hb⟩
  replace Qa := hid ((Qa.out).below hb)
  replace Qb := hid ((Qb.out).below hb)
  replace Z := hid (Nat.le_trans (Nat.le_trans Z.out (by first | exact Nat.le_refl _ | omega | (simp only [World.size_alloc, World.size_drew]; omega))) hb.size)
  replace B := hid (bt B.out hb)
  clear hb
  have xa0 : w1.cell? ⟨w.heap.size, 0, none⟩ = some (.int .u64 a) := Qa.out.cell 0
  have xa1 : w1.cell? ⟨w.heap.size, 1, none⟩ = some (.int .u64 b) := Qa.out.cell 1
  have xa2 : w1.cell? ⟨w.heap.size, 2, none⟩ = some (.int .u64 c) := Qa.out.cell 2
  have xa3 : w1.cell? ⟨w.heap.size, 3, none⟩ = some (.string p) := Qa.out.cell 3
  have xa4 : w1.cell? ⟨w.heap.size, 4, none⟩ = some (.string m) := Qa.out.cell 4
  have xb0 : w1.cell? ⟨w.heap.size + 1, 0, none⟩ = some (.int .u64 a') := Qb.out.cell 0
  have xb1 : w1.cell? ⟨w.heap.size + 1, 1, none⟩ = some (.int .u64 b') := Qb.out.cell 1
  have xb2 : w1.cell? ⟨w.heap.size + 1, 2, none⟩ = some (.int .u64 c') := Qb.out.cell 2
  have xb3 : w1.cell? ⟨w.heap.size + 1, 3, none⟩ = some (.string p') := Qb.out.cell 3
  have xb4 : w1.cell? ⟨w.heap.size + 1, 4, none⟩ = some (.string m') := Qb.out.cell 4
  go_wp2_with fail
  go_at_call 17
  refine (fitB_any a' b' c' p' m' _ hp' hm').mono ?_
  rintro e w2 ⟨rfl, hb⟩
  replace Qa := hid ((Qa.out).below hb)
  replace Qb := hid ((Qb.out).below hb)
  replace Z := hid (Nat.le_trans (Nat.le_trans Z.out (by first | exact Nat.le_refl _ | omega | (simp only [World.size_alloc, World.size_drew]; omega))) hb.size)
  replace B := hid (bt B.out hb)
  clear hb
  have xa0 : w2.cell? ⟨w.heap.size, 0, none⟩ = some (.int .u64 a) := Qa.out.cell 0
  have xa1 : w2.cell? ⟨w.heap.size, 1, none⟩ = some (.int .u64 b) := Qa.out.cell 1
  have xa2 : w2.cell? ⟨w.heap.size, 2, none⟩ = some (.int .u64 c) := Qa.out.cell 2
  have xa3 : w2.cell? ⟨w.heap.size, 3, none⟩ = some (.string p) := Qa.out.cell 3
  have xa4 : w2.cell? ⟨w.heap.size, 4, none⟩ = some (.string m) := Qa.out.cell 4
  have xb0 : w2.cell? ⟨w.heap.size + 1, 0, none⟩ = some (.int .u64 a') := Qb.out.cell 0
  have xb1 : w2.cell? ⟨w.heap.size + 1, 1, none⟩ = some (.int .u64 b') := Qb.out.cell 1
  have xb2 : w2.cell? ⟨w.heap.size + 1, 2, none⟩ = some (.int .u64 c') := Qb.out.cell 2
  have xb3 : w2.cell? ⟨w.heap.size + 1, 3, none⟩ = some (.string p') := Qb.out.cell 3
  have xb4 : w2.cell? ⟨w.heap.size + 1, 4, none⟩ = some (.string m') := Qb.out.cell 4
  go_wp2_with fail
  go_at_call 19
  refine (svGood1 a' b' c' p' m' s1.1 s1.2 _ _ _ (by simp)).mono ?_
  rintro e w3 ⟨rfl, hb⟩
  replace Qa := hid (((Qa.out.alloc _)).below hb)
  replace Qb := hid (((Qb.out.alloc _)).below hb)
  replace Z := hid (Nat.le_trans (Nat.le_trans Z.out (by first | exact Nat.le_refl _ | omega | (simp only [World.size_alloc, World.size_drew]; omega))) hb.size)
  replace B := hid (bt (B.out.alloc (by have := B.out.size; first | omega | (simp only [World.size_alloc]; omega)) _) hb)
  clear hb
  have xa0 : w3.cell? ⟨w.heap.size, 0, none⟩ = some (.int .u64 a) := Qa.out.cell 0
  have xa1 : w3.cell? ⟨w.heap.size, 1, none⟩ = some (.int .u64 b) := Qa.out.cell 1
  have xa2 : w3.cell? ⟨w.heap.size, 2, none⟩ = some (.int .u64 c) := Qa.out.cell 2
  have xa3 : w3.cell? ⟨w.heap.size, 3, none⟩ = some (.string p) := Qa.out.cell 3
  have xa4 : w3.cell? ⟨w.heap.size, 4, none⟩ = some (.string m) := Qa.out.cell 4
  have xb0 : w3.cell? ⟨w.heap.size + 1, 0, none⟩ = some (.int .u64 a') := Qb.out.cell 0
  have xb1 : w3.cell? ⟨w.heap.size + 1, 1, none⟩ = some (.int .u64 b') := Qb.out.cell 1
  have xb2 : w3.cell? ⟨w.heap.size + 1, 2, none⟩ = some (.int .u64 c') := Qb.out.cell 2
  have xb3 : w3.cell? ⟨w.heap.size + 1, 3, none⟩ = some (.string p') := Qb.out.cell 3
  have xb4 : w3.cell? ⟨w.heap.size + 1, 4, none⟩ = some (.string m') := Qb.out.cell 4
  go_wp2_with fail
  go_at_call 36
  refine (stTerm_2 6 a b c p m _).mono ?_
  rintro e w4 ⟨rfl, hb⟩
  replace Qa := hid ((Qa.out).below hb)
  replace Qb := hid ((Qb.out).below hb)
  replace Z := hid (Nat.le_trans (Nat.le_trans Z.out (by first | exact Nat.le_refl _ | omega | (simp only [World.size_alloc, World.size_drew]; omega))) hb.size)
  replace B := hid (bt B.out hb)
  clear hb
  have xa0 : w4.cell? ⟨w.heap.size, 0, none⟩ = some (.int .u64 a) := Qa.out.cell 0
  have xa1 : w4.cell? ⟨w.heap.size, 1, none⟩ = some (.int .u64 b) := Qa.out.cell 1
  have xa2 : w4.cell? ⟨w.heap.size, 2, none⟩ = some (.int .u64 c) := Qa.out.cell 2
  have xa3 : w4.cell? ⟨w.heap.size, 3, none⟩ = some (.string p) := Qa.out.cell 3
  have xa4 : w4.cell? ⟨w.heap.size, 4, none⟩ = some (.string m) := Qa.out.cell 4
  have xb0 : w4.cell? ⟨w.heap.size + 1, 0, none⟩ = some (.int .u64 a') := Qb.out.cell 0
  have xb1 : w4.cell? ⟨w.heap.size + 1, 1, none⟩ = some (.int .u64 b') := Qb.out.cell 1
  have xb2 : w4.cell? ⟨w.heap.size + 1, 2, none⟩ = some (.int .u64 c') := Qb.out.cell 2
  have xb3 : w4.cell? ⟨w.heap.size + 1, 3, none⟩ = some (.string p') := Qb.out.cell 3
  have xb4 : w4.cell? ⟨w.heap.size + 1, 4, none⟩ = some (.string m') := Qb.out.cell 4
  have hz0 : w.heap.size < w4.heap.size := by have := Z.out; omega
  have hz1 : w.heap.size + 1 < w4.heap.size := by have := Z.out; omega
  go_wp2_with fail
  have Z4 := hid Z.out
  go_at_call 35
  refine (termHolds_at 6 2 (by omega) (by omega) 6 2 rfl rfl a' b' c' p' m' a b 0 ByteArray.empty pre r _ (HV.out.below (B.out.alloc (by have := B.out.size; omega) _)) HR6.out).mono ?_
  rintro e w5 ⟨rfl, hb⟩
  replace Qa := hid (((Qa.out.alloc _)).below hb)
  replace Qb := hid (((Qb.out.alloc _)).below hb)
  have Qt := hid (((Blk.new _ _ _)).below hb)
  replace Z := hid (Nat.le_trans (Nat.le_trans Z.out (by first | exact Nat.le_refl _ | omega | (simp only [World.size_alloc, World.size_drew]; omega))) hb.size)
  replace B := hid (bt (B.out.alloc (by have := B.out.size; first | omega | (simp only [World.size_alloc]; omega)) _) hb)
  clear hb
  have ft : w5.frozen? ⟨w4.heap.size, 0, none⟩ = false := Qt.out.frozen 0
  have xa0 : w5.cell? ⟨w.heap.size, 0, none⟩ = some (.int .u64 a) := Qa.out.cell 0
  have xa1 : w5.cell? ⟨w.heap.size, 1, none⟩ = some (.int .u64 b) := Qa.out.cell 1
  have xa2 : w5.cell? ⟨w.heap.size, 2, none⟩ = some (.int .u64 c) := Qa.out.cell 2
  have xa3 : w5.cell? ⟨w.heap.size, 3, none⟩ = some (.string p) := Qa.out.cell 3
  have xa4 : w5.cell? ⟨w.heap.size, 4, none⟩ = some (.string m) := Qa.out.cell 4
  have xb0 : w5.cell? ⟨w.heap.size + 1, 0, none⟩ = some (.int .u64 a') := Qb.out.cell 0
  have xb1 : w5.cell? ⟨w.heap.size + 1, 1, none⟩ = some (.int .u64 b') := Qb.out.cell 1
  have xb2 : w5.cell? ⟨w.heap.size + 1, 2, none⟩ = some (.int .u64 c') := Qb.out.cell 2
  have xb3 : w5.cell? ⟨w.heap.size + 1, 3, none⟩ = some (.string p') := Qb.out.cell 3
  have xb4 : w5.cell? ⟨w.heap.size + 1, 4, none⟩ = some (.string m') := Qb.out.cell 4
  have xt0 : w5.cell? ⟨w4.heap.size, 0, none⟩ = some (.int .i64 6) := Qt.out.cell 0
  have xt1 : w5.cell? ⟨w4.heap.size, 1, none⟩ = some (.int .i64 2) := Qt.out.cell 1
  have xt2 : w5.cell? ⟨w4.heap.size, 2, none⟩ = some (.int .u64 a) := Qt.out.cell 2
  have xt3 : w5.cell? ⟨w4.heap.size, 3, none⟩ = some (.int .u64 b) := Qt.out.cell 3
  have xt4 : w5.cell? ⟨w4.heap.size, 4, none⟩ = some (.int .u64 0) := Qt.out.cell 4
  have xt5 : w5.cell? ⟨w4.heap.size, 5, none⟩ = some (.string ByteArray.empty) := Qt.out.cell 5
  go_wp2_with fail
  have Rt := hid (show Blk (w5.setCell ⟨w4.heap.size, 0, none⟩ (.int .i64 0)) w4.heap.size 36 #[.int .i64 0, .int .i64 2, .int .u64 a, .int .u64 b, .int .u64 0, .string ByteArray.empty] from Qt.out.set 0 _)
  have Ra := hid (Qa.out.other (by have := Z4.out; omega) 0 (.int .i64 0) (h := w4.heap.size))
  have Rb := hid (Qb.out.other (by have := Z4.out; omega) 0 (.int .i64 0) (h := w4.heap.size))
  have B6 := hid (below_set B.out (by have := Z4.out; omega) 0 (.int .i64 0) (g := w4.heap.size))
  generalize w5.setCell ⟨w4.heap.size, 0, none⟩ (.int .i64 0) = w6 at *
  have C1 := hid (fun d os => Calls.regrown_of (termHolds_at 0 2 (by omega) (by omega) 0 2 rfl rfl a' b' c' p' m' a b 0 ByteArray.empty pre r (Go.Sort.grow (redrawn w6 d) os) (HV.out.below (bt B6.out (below_regrown w6 d os))) HR0.out))
  have C2 := hid (fun d os => Calls.regrown_of (scFirst_2 a b c p m (Go.Sort.grow (redrawn w6 d) os)))
  have C3 := hid (fun d os => Calls.regrown_of (termHolds_at 0 2 (by omega) (by omega) 0 2 rfl rfl a b 0 ByteArray.empty ByteArray.empty a b 0 ByteArray.empty pre true (Go.Sort.grow (redrawn w6 d) os) (HV.out.below (bt B6.out (below_regrown w6 d os))) HR3.out))
  have kRt0 : ∀ d os, (Go.Sort.grow (redrawn w6 d) os).cell? ⟨w4.heap.size, 0, none⟩ = some (.int .i64 0) := fun d os => (blk_gr Rt.out d os).cell 0
  have kRt1 : ∀ d os, (Go.Sort.grow (redrawn w6 d) os).cell? ⟨w4.heap.size, 1, none⟩ = some (.int .i64 2) := fun d os => (blk_gr Rt.out d os).cell 1
  have kRt2 : ∀ d os, (Go.Sort.grow (redrawn w6 d) os).cell? ⟨w4.heap.size, 2, none⟩ = some (.int .u64 a) := fun d os => (blk_gr Rt.out d os).cell 2
  have kRt3 : ∀ d os, (Go.Sort.grow (redrawn w6 d) os).cell? ⟨w4.heap.size, 3, none⟩ = some (.int .u64 b) := fun d os => (blk_gr Rt.out d os).cell 3
  have kRt4 : ∀ d os, (Go.Sort.grow (redrawn w6 d) os).cell? ⟨w4.heap.size, 4, none⟩ = some (.int .u64 0) := fun d os => (blk_gr Rt.out d os).cell 4
  have kRt5 : ∀ d os, (Go.Sort.grow (redrawn w6 d) os).cell? ⟨w4.heap.size, 5, none⟩ = some (.string ByteArray.empty) := fun d os => (blk_gr Rt.out d os).cell 5
  have kRa0 : ∀ d os, (Go.Sort.grow (redrawn w6 d) os).cell? ⟨w.heap.size, 0, none⟩ = some (.int .u64 a) := fun d os => (blk_gr Ra.out d os).cell 0
  have kRa1 : ∀ d os, (Go.Sort.grow (redrawn w6 d) os).cell? ⟨w.heap.size, 1, none⟩ = some (.int .u64 b) := fun d os => (blk_gr Ra.out d os).cell 1
  have kRa2 : ∀ d os, (Go.Sort.grow (redrawn w6 d) os).cell? ⟨w.heap.size, 2, none⟩ = some (.int .u64 c) := fun d os => (blk_gr Ra.out d os).cell 2
  have kRa3 : ∀ d os, (Go.Sort.grow (redrawn w6 d) os).cell? ⟨w.heap.size, 3, none⟩ = some (.string p) := fun d os => (blk_gr Ra.out d os).cell 3
  have kRa4 : ∀ d os, (Go.Sort.grow (redrawn w6 d) os).cell? ⟨w.heap.size, 4, none⟩ = some (.string m) := fun d os => (blk_gr Ra.out d os).cell 4
  have kRb0 : ∀ d os, (Go.Sort.grow (redrawn w6 d) os).cell? ⟨w.heap.size + 1, 0, none⟩ = some (.int .u64 a') := fun d os => (blk_gr Rb.out d os).cell 0
  have kRb1 : ∀ d os, (Go.Sort.grow (redrawn w6 d) os).cell? ⟨w.heap.size + 1, 1, none⟩ = some (.int .u64 b') := fun d os => (blk_gr Rb.out d os).cell 1
  have kRb2 : ∀ d os, (Go.Sort.grow (redrawn w6 d) os).cell? ⟨w.heap.size + 1, 2, none⟩ = some (.int .u64 c') := fun d os => (blk_gr Rb.out d os).cell 2
  have kRb3 : ∀ d os, (Go.Sort.grow (redrawn w6 d) os).cell? ⟨w.heap.size + 1, 3, none⟩ = some (.string p') := fun d os => (blk_gr Rb.out d os).cell 3
  have kRb4 : ∀ d os, (Go.Sort.grow (redrawn w6 d) os).cell? ⟨w.heap.size + 1, 4, none⟩ = some (.string m') := fun d os => (blk_gr Rb.out d os).cell 4
  refine wp_region_quiet_below (by kernel_rfl) (by kernel_rfl) ?_
  repeat (go_big_quiet_step ((first | (go_at_call_of 35 (Value.string m'); exact C1.out _ _) | (go_at_call 37; exact C2.out _ _) | (go_at_call 35; exact C3.out _ _) | fail)))
  refine wpQuiet_nil ?_
  intro _ hw'
  obtain ⟨⟨dq, osq⟩, hw''⟩ := hw'
  subst hw''
  go_wp2_with fail
  go_ret
  exact ⟨rfl, bt B6.out (below_regrown _ _ _)⟩

end Go.Proofs.YtmlbjcdildaldaaDoor

set_option linter.unusedVariables false
set_option linter.unusedSimpArgs false
namespace Go.Proofs.YtmlbjcdildaldaaDoor
open Go.RowKit

theorem verOk_size {p m : ByteArray} (h : verOk ⟨0, 0, 0, p, m⟩ = true) : p.size ≤ 2147483647 ∧ m.size ≤ 2147483647 := by
  simp only [verOk, Bool.and_eq_true] at h
  exact ⟨Nat.le_trans (by simpa [short] using h.1 : p.size ≤ 65536) (by omega), Nat.le_trans (by simpa [short] using h.2.1 : m.size ≤ 65536) (by omega)⟩
theorem eq_is_tilde (a b c : Int) (p : ByteArray) (x y z : Int) (q : ByteArray) (k : Nat) (hk : k < 3) (pre : Bool) : opV 0 a b c p x y z q k pre = opV 6 a b c p x y z q k pre := by
  unfold opV opR opEq
  cases h : preBar p pre
  · simp [hk]
  · simp [opTilde]
theorem eq_own_0 (x : Int) (hx : 0 ≤ x) (pre : Bool) : opV 0 x 0 0 ByteArray.empty 0 0 0 ByteArray.empty 0 pre = true := by
  have hn : ¬ num3 x 0 0 0 0 0 < 0 := by rcases num3_cases x 0 0 0 0 0 with h1 | h1 | h1 <;> omega
  simp [opV, opR, opEq, opTilde, preBar_empty, empty_list, cmpV_nil, hn]
theorem eq_own (x y : Int) (k : Nat) (hk : k = 1 ∨ k = 2) (pre : Bool) : opV 0 x y 0 ByteArray.empty x y 0 ByteArray.empty k pre = true := by
  have hn : ¬ num3 x y 0 x y 0 < 0 := by rw [num3_self]; omega
  rcases hk with rfl | rfl <;> simp [opV, opR, opEq, opTilde, preBar_empty, empty_list, cmpV_nil, hn]

theorem fnSemverTermWild_walk (a b c : Int) (p m : ByteArray) (k : Int) (a' b' c' : Int) (p' m' : ByteArray) (pre : Bool) (w : World) (wa : (Lit.int .u64 a).wf = true) (wb : (Lit.int .u64 b).wf = true) (wc : (Lit.int .u64 c).wf = true) (hp : p.size ≤ maxLen) (hm : m.size ≤ maxLen) (wk : (Lit.int .i64 k).wf = true)
    (wa' : (Lit.int .u64 a').wf = true) (wb' : (Lit.int .u64 b').wf = true) (wc' : (Lit.int .u64 c').wf = true) (hp' : p'.size ≤ maxLen) (hm' : m'.size ≤ maxLen) (hv : Vars w) :
    Calls Tryd.prog 11 #[.agg (scells a b c p m), .int .i64 k, .agg (scells a' b' c' p' m'), .bool pre] w fun e w' => e = .returned (.bool true) ∧ Below w.heap.size w w' := by
  have ra := wf_u64 wa
  have rb := wf_u64 wb
  have rc := wf_u64 wc
  have ra' := wf_u64 wa'
  have rb' := wf_u64 wb'
  have rc' := wf_u64 wc'
  cases f1 : fitB p m
  · exact wild_unfit1 a b c p m k a' b' c' p' m' pre w hp hm hp' hm' hv f1
  cases f2 : fitB p' m'
  · exact wild_unfit2 a b c p m k a' b' c' p' m' pre w hp hm hp' hm' hv f1 f2
  by_cases h1 : k < 0
  · exact wild_low a b c p m k a' b' c' p' m' pre w hp hm hp' hm' hv f1 f2 h1
  by_cases h3 : 2 < k
  · exact wild_high a b c p m k a' b' c' p' m' pre w hp hm hp' hm' hv f1 f2 (by omega) h3
  have s1 := fitB_size f2
  cases f3 : verOk ⟨0, 0, 0, p', m'⟩
  · exact wild_bad a b c p m k a' b' c' p' m' pre w hp hm hp' hm' hv f1 f2 s1 (by omega) (by omega) f3
  have hz : (ByteArray.empty).size ≤ 2147483647 := by decide
  have sp := (verOk_size f3).1
  have op : ∀ (o : Nat), o < 8 → ∀ (j : Nat) (x y z : Int), 0 ≤ x → 0 ≤ y → ∀ g h, OpIs (opF o) g h a' b' c' p' m' x y z ByteArray.empty ByteArray.empty (opS o) ByteArray.empty (j == 1) (decide (j < 3)) (j == 2) pre (opV o a' b' c' p' x y z ByteArray.empty j pre) :=
    fun o ho j x y z hx hy g h => opIs_any o ho j a' b' c' p' m' x y z ByteArray.empty ByteArray.empty (opS o) ByteArray.empty pre sp hz (fun _ => by rw [empty_list]; rfl) ra'.1 rb'.1 hx hy g h
  have own : ∀ (j : Nat) (u v x y : Int), 0 ≤ u → 0 ≤ v → 0 ≤ x → 0 ≤ y → opV 0 u v 0 ByteArray.empty x y 0 ByteArray.empty j pre = true → ∀ g h, OpIs (opF 0) g h u v 0 ByteArray.empty ByteArray.empty x y 0 ByteArray.empty ByteArray.empty (opS 0) ByteArray.empty (j == 1) (decide (j < 3)) (j == 2) pre true :=
    fun j u v x y hu hv2 hx hy e g h => e ▸ opIs_any 0 (by omega) j u v 0 ByteArray.empty ByteArray.empty x y 0 ByteArray.empty ByteArray.empty (opS 0) ByteArray.empty pre hz hz (fun _ => by rw [empty_list]; rfl) hu hv2 hx hy g h
  obtain rfl | rfl | rfl : k = 0 ∨ k = 1 ∨ k = 2 := by omega
  · exact wild_0 a b c p m a' b' c' p' m' pre w hp hm hp' hm' hv f1 f2 s1 f3 _ (op 6 (by omega) 0 0 0 0 (by omega) (by omega)) (fun g h => eq_is_tilde a' b' c' p' 0 0 0 ByteArray.empty 0 (by omega) pre ▸ op 0 (by omega) 0 0 0 0 (by omega) (by omega) g h) (own 0 a 0 0 0 ra.1 (by omega) (by omega) (by omega) (eq_own_0 a ra.1 pre))
  · exact wild_1 a b c p m a' b' c' p' m' pre w hp hm hp' hm' hv f1 f2 s1 f3 _ (op 6 (by omega) 1 a 0 0 ra.1 (by omega)) (fun g h => eq_is_tilde a' b' c' p' a 0 0 ByteArray.empty 1 (by omega) pre ▸ op 0 (by omega) 1 a 0 0 ra.1 (by omega) g h) (own 1 a 0 a 0 ra.1 (by omega) ra.1 (by omega) (eq_own a 0 1 (.inl rfl) pre))
  · exact wild_2 a b c p m a' b' c' p' m' pre w hp hm hp' hm' hv f1 f2 s1 f3 _ (op 6 (by omega) 2 a b 0 ra.1 rb.1) (fun g h => eq_is_tilde a' b' c' p' a b 0 ByteArray.empty 2 (by omega) pre ▸ op 0 (by omega) 2 a b 0 ra.1 rb.1 g h) (own 2 a b a b ra.1 rb.1 ra.1 rb.1 (eq_own a b 2 (.inr rfl) pre))

end Go.Proofs.YtmlbjcdildaldaaDoor
