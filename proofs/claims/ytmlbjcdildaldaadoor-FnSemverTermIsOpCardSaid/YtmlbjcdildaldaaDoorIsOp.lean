/- The doors of the comparisons, their numbers as the walk spells them. The law FnSemverTermIsOp, walked. The law FnSemverTermIsOp, walked: more. The law FnSemverTermIsOp: the ways joined. -/
import Derived.Test.YtmlbjcdildaldaaDoorDoorC
import Derived.Test.YtmlbjcdildaldaaDoorWild
import Derived.Test.YtmlbjcdildaldaaDoorGoodT
import Derived.Test.YtmlbjcdildaldaaDoorLetIn
set_option linter.unusedVariables false
set_option linter.unusedSimpArgs false
namespace Go.Proofs.YtmlbjcdildaldaaDoor
open Go.RowKit

theorem equalHolds_at (o k : Nat) (ho : o < 8) (hk : k ≤ 3) (oi ki : Int) (eo : oi = o) (ek : ki = k) (a b c : Int) (p m : ByteArray) (a' b' c' : Int) (p' : ByteArray) (pre r : Bool) (w : World) (hv : Vars w)
    (hr : ∀ g h, OpIs 103 g h a b c p m a' b' c' p' ByteArray.empty (opS o) ByteArray.empty (k == 1) (decide (k < 3)) (k == 2) pre r) :
    Calls Tryd.prog 29 #[.agg #[.int .i64 oi, .int .i64 ki, .int .u64 a', .int .u64 b', .int .u64 c', .string p'], .agg (scells a b c p m), .bool pre] w fun e w' => e = .returned (.bool r) ∧ Below w.heap.size w w' := by
  subst eo ek
  exact equalHolds_any o k ho hk a b c p m a' b' c' p' pre r w hv hr

theorem notEqualHolds_at (o k : Nat) (ho : o < 8) (hk : k ≤ 3) (oi ki : Int) (eo : oi = o) (ek : ki = k) (a b c : Int) (p m : ByteArray) (a' b' c' : Int) (p' : ByteArray) (pre r : Bool) (w : World) (hv : Vars w)
    (hr : ∀ g h, OpIs 108 g h a b c p m a' b' c' p' ByteArray.empty (opS o) ByteArray.empty (k == 1) (decide (k < 3)) (k == 2) pre r) :
    Calls Tryd.prog 47 #[.agg #[.int .i64 oi, .int .i64 ki, .int .u64 a', .int .u64 b', .int .u64 c', .string p'], .agg (scells a b c p m), .bool pre] w fun e w' => e = .returned (.bool r) ∧ Below w.heap.size w w' := by
  subst eo ek
  exact notEqualHolds_any o k ho hk a b c p m a' b' c' p' pre r w hv hr

theorem aboveHolds_at (o k : Nat) (ho : o < 8) (hk : k ≤ 3) (oi ki : Int) (eo : oi = o) (ek : ki = k) (a b c : Int) (p m : ByteArray) (a' b' c' : Int) (p' : ByteArray) (pre r : Bool) (w : World) (hv : Vars w)
    (hr : ∀ g h, OpIs 109 g h a b c p m a' b' c' p' ByteArray.empty (opS o) ByteArray.empty (k == 1) (decide (k < 3)) (k == 2) pre r) :
    Calls Tryd.prog 48 #[.agg #[.int .i64 oi, .int .i64 ki, .int .u64 a', .int .u64 b', .int .u64 c', .string p'], .agg (scells a b c p m), .bool pre] w fun e w' => e = .returned (.bool r) ∧ Below w.heap.size w w' := by
  subst eo ek
  exact aboveHolds_any o k ho hk a b c p m a' b' c' p' pre r w hv hr

theorem belowHolds_at (o k : Nat) (ho : o < 8) (hk : k ≤ 3) (oi ki : Int) (eo : oi = o) (ek : ki = k) (a b c : Int) (p m : ByteArray) (a' b' c' : Int) (p' : ByteArray) (pre r : Bool) (w : World) (hv : Vars w)
    (hr : ∀ g h, OpIs 110 g h a b c p m a' b' c' p' ByteArray.empty (opS o) ByteArray.empty (k == 1) (decide (k < 3)) (k == 2) pre r) :
    Calls Tryd.prog 49 #[.agg #[.int .i64 oi, .int .i64 ki, .int .u64 a', .int .u64 b', .int .u64 c', .string p'], .agg (scells a b c p m), .bool pre] w fun e w' => e = .returned (.bool r) ∧ Below w.heap.size w w' := by
  subst eo ek
  exact belowHolds_any o k ho hk a b c p m a' b' c' p' pre r w hv hr

theorem leastHolds_at (o k : Nat) (ho : o < 8) (hk : k ≤ 3) (oi ki : Int) (eo : oi = o) (ek : ki = k) (a b c : Int) (p m : ByteArray) (a' b' c' : Int) (p' : ByteArray) (pre r : Bool) (w : World) (hv : Vars w)
    (hr : ∀ g h, OpIs 104 g h a b c p m a' b' c' p' ByteArray.empty (opS o) ByteArray.empty (k == 1) (decide (k < 3)) (k == 2) pre r) :
    Calls Tryd.prog 30 #[.agg #[.int .i64 oi, .int .i64 ki, .int .u64 a', .int .u64 b', .int .u64 c', .string p'], .agg (scells a b c p m), .bool pre] w fun e w' => e = .returned (.bool r) ∧ Below w.heap.size w w' := by
  subst eo ek
  exact leastHolds_any o k ho hk a b c p m a' b' c' p' pre r w hv hr

theorem mostHolds_at (o k : Nat) (ho : o < 8) (hk : k ≤ 3) (oi ki : Int) (eo : oi = o) (ek : ki = k) (a b c : Int) (p m : ByteArray) (a' b' c' : Int) (p' : ByteArray) (pre r : Bool) (w : World) (hv : Vars w)
    (hr : ∀ g h, OpIs 111 g h a b c p m a' b' c' p' ByteArray.empty (opS o) ByteArray.empty (k == 1) (decide (k < 3)) (k == 2) pre r) :
    Calls Tryd.prog 50 #[.agg #[.int .i64 oi, .int .i64 ki, .int .u64 a', .int .u64 b', .int .u64 c', .string p'], .agg (scells a b c p m), .bool pre] w fun e w' => e = .returned (.bool r) ∧ Below w.heap.size w w' := by
  subst eo ek
  exact mostHolds_any o k ho hk a b c p m a' b' c' p' pre r w hv hr

theorem tildeHolds_at (o k : Nat) (ho : o < 8) (hk : k ≤ 3) (oi ki : Int) (eo : oi = o) (ek : ki = k) (a b c : Int) (p m : ByteArray) (a' b' c' : Int) (p' : ByteArray) (pre r : Bool) (w : World) (hv : Vars w)
    (hr : ∀ g h, OpIs 112 g h a b c p m a' b' c' p' ByteArray.empty (opS o) ByteArray.empty (k == 1) (decide (k < 3)) (k == 2) pre r) :
    Calls Tryd.prog 51 #[.agg #[.int .i64 oi, .int .i64 ki, .int .u64 a', .int .u64 b', .int .u64 c', .string p'], .agg (scells a b c p m), .bool pre] w fun e w' => e = .returned (.bool r) ∧ Below w.heap.size w w' := by
  subst eo ek
  exact tildeHolds_any o k ho hk a b c p m a' b' c' p' pre r w hv hr

theorem caretHolds_at (o k : Nat) (ho : o < 8) (hk : k ≤ 3) (oi ki : Int) (eo : oi = o) (ek : ki = k) (a b c : Int) (p m : ByteArray) (a' b' c' : Int) (p' : ByteArray) (pre r : Bool) (w : World) (hv : Vars w)
    (hr : ∀ g h, OpIs 97 g h a b c p m a' b' c' p' ByteArray.empty (opS o) ByteArray.empty (k == 1) (decide (k < 3)) (k == 2) pre r) :
    Calls Tryd.prog 27 #[.agg #[.int .i64 oi, .int .i64 ki, .int .u64 a', .int .u64 b', .int .u64 c', .string p'], .agg (scells a b c p m), .bool pre] w fun e w' => e = .returned (.bool r) ∧ Below w.heap.size w w' := by
  subst eo ek
  exact caretHolds_any o k ho hk a b c p m a' b' c' p' pre r w hv hr

end Go.Proofs.YtmlbjcdildaldaaDoor

set_option linter.unusedVariables false
set_option linter.unusedSimpArgs false
namespace Go.Proofs.YtmlbjcdildaldaaDoor
open Go.RowKit

set_option maxHeartbeats 800000 in
set_option maxRecDepth 100000 in
theorem isop_unfit1 (o k : Int) (a b c : Int) (p : ByteArray) (a' b' c' : Int) (p' m' : ByteArray) (pre : Bool) (w : World) (hp : p.size ≤ maxLen) (hp' : p'.size ≤ maxLen) (hm' : m'.size ≤ maxLen) (hv : Vars w) (f0 : decide (p.size ≤ 2147483647) = false) :
    Calls Tryd.prog 14 #[.agg #[.int .i64 o, .int .i64 k, .int .u64 a, .int .u64 b, .int .u64 c, .string p], .agg (scells a' b' c' p' m'), .bool pre] w fun e w' => e = .returned (.bool true) ∧ Below w.heap.size w w' := by
  have B := hid (show Below w.heap.size w ((w.alloc (.cells #[.int .i64 o, .int .i64 k, .int .u64 a, .int .u64 b, .int .u64 c, .string p] 36)).alloc (.cells #[.int .u64 a', .int .u64 b', .int .u64 c', .string p', .string m'] 27)) by go_grown)
  have Z := hid (show w.heap.size + 2 ≤ ((w.alloc (.cells #[.int .i64 o, .int .i64 k, .int .u64 a, .int .u64 b, .int .u64 c, .string p] 36)).alloc (.cells #[.int .u64 a', .int .u64 b', .int .u64 c', .string p', .string m'] 27)).heap.size by simp only [World.size_alloc]; omega)
  obtain ⟨qa, qb⟩ := two_new w (#[.int .i64 o, .int .i64 k, .int .u64 a, .int .u64 b, .int .u64 c, .string p]) (#[.int .u64 a', .int .u64 b', .int .u64 c', .string p', .string m']) 36 27
  have Qa := hid qa
  have Qb := hid qb
  clear qa qb
  have HV := hid hv
  clear hv
  go_enter Tryd.func14, Tryd.ntmps14
  go_wp2_with fail
  go_at_call 25
  refine (fits13_any _ _ a b c p _ hp).mono ?_
  rintro e w1 ⟨rfl, hb⟩
  replace Qa := hid ((Qa.out).below hb)
  replace Qb := hid ((Qb.out).below hb)
  replace Z := hid (Nat.le_trans (Nat.le_trans Z.out (by first | exact Nat.le_refl _ | omega | (simp only [World.size_alloc, World.size_drew]; omega))) hb.size)
  replace B := hid (bt B.out hb)
  clear hb
  have xa0 : w1.cell? ⟨w.heap.size, 0, none⟩ = some (.int .i64 o) := Qa.out.cell 0
  have xa1 : w1.cell? ⟨w.heap.size, 1, none⟩ = some (.int .i64 k) := Qa.out.cell 1
  have xa2 : w1.cell? ⟨w.heap.size, 2, none⟩ = some (.int .u64 a) := Qa.out.cell 2
  have xa3 : w1.cell? ⟨w.heap.size, 3, none⟩ = some (.int .u64 b) := Qa.out.cell 3
  have xa4 : w1.cell? ⟨w.heap.size, 4, none⟩ = some (.int .u64 c) := Qa.out.cell 4
  have xa5 : w1.cell? ⟨w.heap.size, 5, none⟩ = some (.string p) := Qa.out.cell 5
  have xb0 : w1.cell? ⟨w.heap.size + 1, 0, none⟩ = some (.int .u64 a') := Qb.out.cell 0
  have xb1 : w1.cell? ⟨w.heap.size + 1, 1, none⟩ = some (.int .u64 b') := Qb.out.cell 1
  have xb2 : w1.cell? ⟨w.heap.size + 1, 2, none⟩ = some (.int .u64 c') := Qb.out.cell 2
  have xb3 : w1.cell? ⟨w.heap.size + 1, 3, none⟩ = some (.string p') := Qb.out.cell 3
  have xb4 : w1.cell? ⟨w.heap.size + 1, 4, none⟩ = some (.string m') := Qb.out.cell 4
  go_wp2_with fail
  go_ret
  exact ⟨rfl, B.out⟩

set_option maxHeartbeats 800000 in
set_option maxRecDepth 100000 in
theorem isop_unfit2 (o k : Int) (a b c : Int) (p : ByteArray) (a' b' c' : Int) (p' m' : ByteArray) (pre : Bool) (w : World) (hp : p.size ≤ maxLen) (hp' : p'.size ≤ maxLen) (hm' : m'.size ≤ maxLen) (hv : Vars w) (f0 : decide (p.size ≤ 2147483647) = true) (f1 : fitB p' m' = false) :
    Calls Tryd.prog 14 #[.agg #[.int .i64 o, .int .i64 k, .int .u64 a, .int .u64 b, .int .u64 c, .string p], .agg (scells a' b' c' p' m'), .bool pre] w fun e w' => e = .returned (.bool true) ∧ Below w.heap.size w w' := by
  have B := hid (show Below w.heap.size w ((w.alloc (.cells #[.int .i64 o, .int .i64 k, .int .u64 a, .int .u64 b, .int .u64 c, .string p] 36)).alloc (.cells #[.int .u64 a', .int .u64 b', .int .u64 c', .string p', .string m'] 27)) by go_grown)
  have Z := hid (show w.heap.size + 2 ≤ ((w.alloc (.cells #[.int .i64 o, .int .i64 k, .int .u64 a, .int .u64 b, .int .u64 c, .string p] 36)).alloc (.cells #[.int .u64 a', .int .u64 b', .int .u64 c', .string p', .string m'] 27)).heap.size by simp only [World.size_alloc]; omega)
  obtain ⟨qa, qb⟩ := two_new w (#[.int .i64 o, .int .i64 k, .int .u64 a, .int .u64 b, .int .u64 c, .string p]) (#[.int .u64 a', .int .u64 b', .int .u64 c', .string p', .string m']) 36 27
  have Qa := hid qa
  have Qb := hid qb
  clear qa qb
  have HV := hid hv
  clear hv
  go_enter Tryd.func14, Tryd.ntmps14
  go_wp2_with fail
  go_at_call 25
  refine (fits13_any _ _ a b c p _ hp).mono ?_
  rintro e w1 ⟨rfl, hb⟩
  replace Qa := hid ((Qa.out).below hb)
  replace Qb := hid ((Qb.out).below hb)
  replace Z := hid (Nat.le_trans (Nat.le_trans Z.out (by first | exact Nat.le_refl _ | omega | (simp only [World.size_alloc, World.size_drew]; omega))) hb.size)
  replace B := hid (bt B.out hb)
  clear hb
  have xa0 : w1.cell? ⟨w.heap.size, 0, none⟩ = some (.int .i64 o) := Qa.out.cell 0
  have xa1 : w1.cell? ⟨w.heap.size, 1, none⟩ = some (.int .i64 k) := Qa.out.cell 1
  have xa2 : w1.cell? ⟨w.heap.size, 2, none⟩ = some (.int .u64 a) := Qa.out.cell 2
  have xa3 : w1.cell? ⟨w.heap.size, 3, none⟩ = some (.int .u64 b) := Qa.out.cell 3
  have xa4 : w1.cell? ⟨w.heap.size, 4, none⟩ = some (.int .u64 c) := Qa.out.cell 4
  have xa5 : w1.cell? ⟨w.heap.size, 5, none⟩ = some (.string p) := Qa.out.cell 5
  have xb0 : w1.cell? ⟨w.heap.size + 1, 0, none⟩ = some (.int .u64 a') := Qb.out.cell 0
  have xb1 : w1.cell? ⟨w.heap.size + 1, 1, none⟩ = some (.int .u64 b') := Qb.out.cell 1
  have xb2 : w1.cell? ⟨w.heap.size + 1, 2, none⟩ = some (.int .u64 c') := Qb.out.cell 2
  have xb3 : w1.cell? ⟨w.heap.size + 1, 3, none⟩ = some (.string p') := Qb.out.cell 3
  have xb4 : w1.cell? ⟨w.heap.size + 1, 4, none⟩ = some (.string m') := Qb.out.cell 4
  go_wp2_with fail
  go_at_call 17
  refine (fitB_any a' b' c' p' m' _ hp' hm').mono ?_
  rintro e w2 ⟨rfl, hb⟩
  replace Qa := hid ((Qa.out).below hb)
  replace Qb := hid ((Qb.out).below hb)
  replace Z := hid (Nat.le_trans (Nat.le_trans Z.out (by first | exact Nat.le_refl _ | omega | (simp only [World.size_alloc, World.size_drew]; omega))) hb.size)
  replace B := hid (bt B.out hb)
  clear hb
  have xa0 : w2.cell? ⟨w.heap.size, 0, none⟩ = some (.int .i64 o) := Qa.out.cell 0
  have xa1 : w2.cell? ⟨w.heap.size, 1, none⟩ = some (.int .i64 k) := Qa.out.cell 1
  have xa2 : w2.cell? ⟨w.heap.size, 2, none⟩ = some (.int .u64 a) := Qa.out.cell 2
  have xa3 : w2.cell? ⟨w.heap.size, 3, none⟩ = some (.int .u64 b) := Qa.out.cell 3
  have xa4 : w2.cell? ⟨w.heap.size, 4, none⟩ = some (.int .u64 c) := Qa.out.cell 4
  have xa5 : w2.cell? ⟨w.heap.size, 5, none⟩ = some (.string p) := Qa.out.cell 5
  have xb0 : w2.cell? ⟨w.heap.size + 1, 0, none⟩ = some (.int .u64 a') := Qb.out.cell 0
  have xb1 : w2.cell? ⟨w.heap.size + 1, 1, none⟩ = some (.int .u64 b') := Qb.out.cell 1
  have xb2 : w2.cell? ⟨w.heap.size + 1, 2, none⟩ = some (.int .u64 c') := Qb.out.cell 2
  have xb3 : w2.cell? ⟨w.heap.size + 1, 3, none⟩ = some (.string p') := Qb.out.cell 3
  have xb4 : w2.cell? ⟨w.heap.size + 1, 4, none⟩ = some (.string m') := Qb.out.cell 4
  go_wp2_with fail
  go_ret
  exact ⟨rfl, B.out⟩

set_option maxHeartbeats 800000 in
set_option maxRecDepth 100000 in
theorem isop_ungood (o k : Int) (a b c : Int) (p : ByteArray) (a' b' c' : Int) (p' m' : ByteArray) (pre : Bool) (w : World) (hp : p.size ≤ maxLen) (hp' : p'.size ≤ maxLen) (hm' : m'.size ≤ maxLen) (hv : Vars w) (f0 : decide (p.size ≤ 2147483647) = true) (f1 : fitB p' m' = true) (s0 : p.size ≤ 2147483647) (s1 : p'.size ≤ 2147483647 ∧ m'.size ≤ 2147483647) (f2 : goodT o k a b c p = false) :
    Calls Tryd.prog 14 #[.agg #[.int .i64 o, .int .i64 k, .int .u64 a, .int .u64 b, .int .u64 c, .string p], .agg (scells a' b' c' p' m'), .bool pre] w fun e w' => e = .returned (.bool true) ∧ Below w.heap.size w w' := by
  have B := hid (show Below w.heap.size w ((w.alloc (.cells #[.int .i64 o, .int .i64 k, .int .u64 a, .int .u64 b, .int .u64 c, .string p] 36)).alloc (.cells #[.int .u64 a', .int .u64 b', .int .u64 c', .string p', .string m'] 27)) by go_grown)
  have Z := hid (show w.heap.size + 2 ≤ ((w.alloc (.cells #[.int .i64 o, .int .i64 k, .int .u64 a, .int .u64 b, .int .u64 c, .string p] 36)).alloc (.cells #[.int .u64 a', .int .u64 b', .int .u64 c', .string p', .string m'] 27)).heap.size by simp only [World.size_alloc]; omega)
  obtain ⟨qa, qb⟩ := two_new w (#[.int .i64 o, .int .i64 k, .int .u64 a, .int .u64 b, .int .u64 c, .string p]) (#[.int .u64 a', .int .u64 b', .int .u64 c', .string p', .string m']) 36 27
  have Qa := hid qa
  have Qb := hid qb
  clear qa qb
  have HV := hid hv
  clear hv
  go_enter Tryd.func14, Tryd.ntmps14
  go_wp2_with fail
  go_at_call 25
  refine (fits13_any _ _ a b c p _ hp).mono ?_
  rintro e w1 ⟨rfl, hb⟩
  replace Qa := hid ((Qa.out).below hb)
  replace Qb := hid ((Qb.out).below hb)
  replace Z := hid (Nat.le_trans (Nat.le_trans Z.out (by first | exact Nat.le_refl _ | omega | (simp only [World.size_alloc, World.size_drew]; omega))) hb.size)
  replace B := hid (bt B.out hb)
  clear hb
  have xa0 : w1.cell? ⟨w.heap.size, 0, none⟩ = some (.int .i64 o) := Qa.out.cell 0
  have xa1 : w1.cell? ⟨w.heap.size, 1, none⟩ = some (.int .i64 k) := Qa.out.cell 1
  have xa2 : w1.cell? ⟨w.heap.size, 2, none⟩ = some (.int .u64 a) := Qa.out.cell 2
  have xa3 : w1.cell? ⟨w.heap.size, 3, none⟩ = some (.int .u64 b) := Qa.out.cell 3
  have xa4 : w1.cell? ⟨w.heap.size, 4, none⟩ = some (.int .u64 c) := Qa.out.cell 4
  have xa5 : w1.cell? ⟨w.heap.size, 5, none⟩ = some (.string p) := Qa.out.cell 5
  have xb0 : w1.cell? ⟨w.heap.size + 1, 0, none⟩ = some (.int .u64 a') := Qb.out.cell 0
  have xb1 : w1.cell? ⟨w.heap.size + 1, 1, none⟩ = some (.int .u64 b') := Qb.out.cell 1
  have xb2 : w1.cell? ⟨w.heap.size + 1, 2, none⟩ = some (.int .u64 c') := Qb.out.cell 2
  have xb3 : w1.cell? ⟨w.heap.size + 1, 3, none⟩ = some (.string p') := Qb.out.cell 3
  have xb4 : w1.cell? ⟨w.heap.size + 1, 4, none⟩ = some (.string m') := Qb.out.cell 4
  go_wp2_with fail
  go_at_call 17
  refine (fitB_any a' b' c' p' m' _ hp' hm').mono ?_
  rintro e w2 ⟨rfl, hb⟩
  replace Qa := hid ((Qa.out).below hb)
  replace Qb := hid ((Qb.out).below hb)
  replace Z := hid (Nat.le_trans (Nat.le_trans Z.out (by first | exact Nat.le_refl _ | omega | (simp only [World.size_alloc, World.size_drew]; omega))) hb.size)
  replace B := hid (bt B.out hb)
  clear hb
  have xa0 : w2.cell? ⟨w.heap.size, 0, none⟩ = some (.int .i64 o) := Qa.out.cell 0
  have xa1 : w2.cell? ⟨w.heap.size, 1, none⟩ = some (.int .i64 k) := Qa.out.cell 1
  have xa2 : w2.cell? ⟨w.heap.size, 2, none⟩ = some (.int .u64 a) := Qa.out.cell 2
  have xa3 : w2.cell? ⟨w.heap.size, 3, none⟩ = some (.int .u64 b) := Qa.out.cell 3
  have xa4 : w2.cell? ⟨w.heap.size, 4, none⟩ = some (.int .u64 c) := Qa.out.cell 4
  have xa5 : w2.cell? ⟨w.heap.size, 5, none⟩ = some (.string p) := Qa.out.cell 5
  have xb0 : w2.cell? ⟨w.heap.size + 1, 0, none⟩ = some (.int .u64 a') := Qb.out.cell 0
  have xb1 : w2.cell? ⟨w.heap.size + 1, 1, none⟩ = some (.int .u64 b') := Qb.out.cell 1
  have xb2 : w2.cell? ⟨w.heap.size + 1, 2, none⟩ = some (.int .u64 c') := Qb.out.cell 2
  have xb3 : w2.cell? ⟨w.heap.size + 1, 3, none⟩ = some (.string p') := Qb.out.cell 3
  have xb4 : w2.cell? ⟨w.heap.size + 1, 4, none⟩ = some (.string m') := Qb.out.cell 4
  go_wp2_with fail
  go_at_call 34
  refine (goodTerm_any _ _ a b c p _ s0).mono ?_
  rintro e w3 ⟨rfl, hb⟩
  replace Qa := hid ((Qa.out).below hb)
  replace Qb := hid ((Qb.out).below hb)
  replace Z := hid (Nat.le_trans (Nat.le_trans Z.out (by first | exact Nat.le_refl _ | omega | (simp only [World.size_alloc, World.size_drew]; omega))) hb.size)
  replace B := hid (bt B.out hb)
  clear hb
  have xa0 : w3.cell? ⟨w.heap.size, 0, none⟩ = some (.int .i64 o) := Qa.out.cell 0
  have xa1 : w3.cell? ⟨w.heap.size, 1, none⟩ = some (.int .i64 k) := Qa.out.cell 1
  have xa2 : w3.cell? ⟨w.heap.size, 2, none⟩ = some (.int .u64 a) := Qa.out.cell 2
  have xa3 : w3.cell? ⟨w.heap.size, 3, none⟩ = some (.int .u64 b) := Qa.out.cell 3
  have xa4 : w3.cell? ⟨w.heap.size, 4, none⟩ = some (.int .u64 c) := Qa.out.cell 4
  have xa5 : w3.cell? ⟨w.heap.size, 5, none⟩ = some (.string p) := Qa.out.cell 5
  have xb0 : w3.cell? ⟨w.heap.size + 1, 0, none⟩ = some (.int .u64 a') := Qb.out.cell 0
  have xb1 : w3.cell? ⟨w.heap.size + 1, 1, none⟩ = some (.int .u64 b') := Qb.out.cell 1
  have xb2 : w3.cell? ⟨w.heap.size + 1, 2, none⟩ = some (.int .u64 c') := Qb.out.cell 2
  have xb3 : w3.cell? ⟨w.heap.size + 1, 3, none⟩ = some (.string p') := Qb.out.cell 3
  have xb4 : w3.cell? ⟨w.heap.size + 1, 4, none⟩ = some (.string m') := Qb.out.cell 4
  go_wp2_with fail
  go_ret
  exact ⟨rfl, B.out⟩

set_option maxHeartbeats 800000 in
set_option maxRecDepth 100000 in
theorem isop_bad (o k : Int) (a b c : Int) (p : ByteArray) (a' b' c' : Int) (p' m' : ByteArray) (pre : Bool) (w : World) (hp : p.size ≤ maxLen) (hp' : p'.size ≤ maxLen) (hm' : m'.size ≤ maxLen) (hv : Vars w) (f0 : decide (p.size ≤ 2147483647) = true) (f1 : fitB p' m' = true) (s0 : p.size ≤ 2147483647) (s1 : p'.size ≤ 2147483647 ∧ m'.size ≤ 2147483647) (f2 : goodT o k a b c p = true) (f3 : verOk ⟨0, 0, 0, p', m'⟩ = false) :
    Calls Tryd.prog 14 #[.agg #[.int .i64 o, .int .i64 k, .int .u64 a, .int .u64 b, .int .u64 c, .string p], .agg (scells a' b' c' p' m'), .bool pre] w fun e w' => e = .returned (.bool true) ∧ Below w.heap.size w w' := by
  have B := hid (show Below w.heap.size w ((w.alloc (.cells #[.int .i64 o, .int .i64 k, .int .u64 a, .int .u64 b, .int .u64 c, .string p] 36)).alloc (.cells #[.int .u64 a', .int .u64 b', .int .u64 c', .string p', .string m'] 27)) by go_grown)
  have Z := hid (show w.heap.size + 2 ≤ ((w.alloc (.cells #[.int .i64 o, .int .i64 k, .int .u64 a, .int .u64 b, .int .u64 c, .string p] 36)).alloc (.cells #[.int .u64 a', .int .u64 b', .int .u64 c', .string p', .string m'] 27)).heap.size by simp only [World.size_alloc]; omega)
  obtain ⟨qa, qb⟩ := two_new w (#[.int .i64 o, .int .i64 k, .int .u64 a, .int .u64 b, .int .u64 c, .string p]) (#[.int .u64 a', .int .u64 b', .int .u64 c', .string p', .string m']) 36 27
  have Qa := hid qa
  have Qb := hid qb
  clear qa qb
  have HV := hid hv
  clear hv
  go_enter Tryd.func14, Tryd.ntmps14
  go_wp2_with fail
  go_at_call 25
  refine (fits13_any _ _ a b c p _ hp).mono ?_
  rintro e w1 ⟨rfl, hb⟩
  replace Qa := hid ((Qa.out).below hb)
  replace Qb := hid ((Qb.out).below hb)
  replace Z := hid (Nat.le_trans (Nat.le_trans Z.out (by first | exact Nat.le_refl _ | omega | (simp only [World.size_alloc, World.size_drew]; omega))) hb.size)
  replace B := hid (bt B.out hb)
  clear hb
  have xa0 : w1.cell? ⟨w.heap.size, 0, none⟩ = some (.int .i64 o) := Qa.out.cell 0
  have xa1 : w1.cell? ⟨w.heap.size, 1, none⟩ = some (.int .i64 k) := Qa.out.cell 1
  have xa2 : w1.cell? ⟨w.heap.size, 2, none⟩ = some (.int .u64 a) := Qa.out.cell 2
  have xa3 : w1.cell? ⟨w.heap.size, 3, none⟩ = some (.int .u64 b) := Qa.out.cell 3
  have xa4 : w1.cell? ⟨w.heap.size, 4, none⟩ = some (.int .u64 c) := Qa.out.cell 4
  have xa5 : w1.cell? ⟨w.heap.size, 5, none⟩ = some (.string p) := Qa.out.cell 5
  have xb0 : w1.cell? ⟨w.heap.size + 1, 0, none⟩ = some (.int .u64 a') := Qb.out.cell 0
  have xb1 : w1.cell? ⟨w.heap.size + 1, 1, none⟩ = some (.int .u64 b') := Qb.out.cell 1
  have xb2 : w1.cell? ⟨w.heap.size + 1, 2, none⟩ = some (.int .u64 c') := Qb.out.cell 2
  have xb3 : w1.cell? ⟨w.heap.size + 1, 3, none⟩ = some (.string p') := Qb.out.cell 3
  have xb4 : w1.cell? ⟨w.heap.size + 1, 4, none⟩ = some (.string m') := Qb.out.cell 4
  go_wp2_with fail
  go_at_call 17
  refine (fitB_any a' b' c' p' m' _ hp' hm').mono ?_
  rintro e w2 ⟨rfl, hb⟩
  replace Qa := hid ((Qa.out).below hb)
  replace Qb := hid ((Qb.out).below hb)
  replace Z := hid (Nat.le_trans (Nat.le_trans Z.out (by first | exact Nat.le_refl _ | omega | (simp only [World.size_alloc, World.size_drew]; omega))) hb.size)
  replace B := hid (bt B.out hb)
  clear hb
  have xa0 : w2.cell? ⟨w.heap.size, 0, none⟩ = some (.int .i64 o) := Qa.out.cell 0
  have xa1 : w2.cell? ⟨w.heap.size, 1, none⟩ = some (.int .i64 k) := Qa.out.cell 1
  have xa2 : w2.cell? ⟨w.heap.size, 2, none⟩ = some (.int .u64 a) := Qa.out.cell 2
  have xa3 : w2.cell? ⟨w.heap.size, 3, none⟩ = some (.int .u64 b) := Qa.out.cell 3
  have xa4 : w2.cell? ⟨w.heap.size, 4, none⟩ = some (.int .u64 c) := Qa.out.cell 4
  have xa5 : w2.cell? ⟨w.heap.size, 5, none⟩ = some (.string p) := Qa.out.cell 5
  have xb0 : w2.cell? ⟨w.heap.size + 1, 0, none⟩ = some (.int .u64 a') := Qb.out.cell 0
  have xb1 : w2.cell? ⟨w.heap.size + 1, 1, none⟩ = some (.int .u64 b') := Qb.out.cell 1
  have xb2 : w2.cell? ⟨w.heap.size + 1, 2, none⟩ = some (.int .u64 c') := Qb.out.cell 2
  have xb3 : w2.cell? ⟨w.heap.size + 1, 3, none⟩ = some (.string p') := Qb.out.cell 3
  have xb4 : w2.cell? ⟨w.heap.size + 1, 4, none⟩ = some (.string m') := Qb.out.cell 4
  go_wp2_with fail
  go_at_call 34
  refine (goodTerm_any _ _ a b c p _ s0).mono ?_
  rintro e w3 ⟨rfl, hb⟩
  replace Qa := hid ((Qa.out).below hb)
  replace Qb := hid ((Qb.out).below hb)
  replace Z := hid (Nat.le_trans (Nat.le_trans Z.out (by first | exact Nat.le_refl _ | omega | (simp only [World.size_alloc, World.size_drew]; omega))) hb.size)
  replace B := hid (bt B.out hb)
  clear hb
  have xa0 : w3.cell? ⟨w.heap.size, 0, none⟩ = some (.int .i64 o) := Qa.out.cell 0
  have xa1 : w3.cell? ⟨w.heap.size, 1, none⟩ = some (.int .i64 k) := Qa.out.cell 1
  have xa2 : w3.cell? ⟨w.heap.size, 2, none⟩ = some (.int .u64 a) := Qa.out.cell 2
  have xa3 : w3.cell? ⟨w.heap.size, 3, none⟩ = some (.int .u64 b) := Qa.out.cell 3
  have xa4 : w3.cell? ⟨w.heap.size, 4, none⟩ = some (.int .u64 c) := Qa.out.cell 4
  have xa5 : w3.cell? ⟨w.heap.size, 5, none⟩ = some (.string p) := Qa.out.cell 5
  have xb0 : w3.cell? ⟨w.heap.size + 1, 0, none⟩ = some (.int .u64 a') := Qb.out.cell 0
  have xb1 : w3.cell? ⟨w.heap.size + 1, 1, none⟩ = some (.int .u64 b') := Qb.out.cell 1
  have xb2 : w3.cell? ⟨w.heap.size + 1, 2, none⟩ = some (.int .u64 c') := Qb.out.cell 2
  have xb3 : w3.cell? ⟨w.heap.size + 1, 3, none⟩ = some (.string p') := Qb.out.cell 3
  have xb4 : w3.cell? ⟨w.heap.size + 1, 4, none⟩ = some (.string m') := Qb.out.cell 4
  go_wp2_with fail
  go_at_call 19
  refine (svGood1 a' b' c' p' m' s1.1 s1.2 _ _ _ (by simp)).mono ?_
  rintro e w4 ⟨rfl, hb⟩
  replace Qa := hid (((Qa.out.alloc _)).below hb)
  replace Qb := hid (((Qb.out.alloc _)).below hb)
  replace Z := hid (Nat.le_trans (Nat.le_trans Z.out (by first | exact Nat.le_refl _ | omega | (simp only [World.size_alloc, World.size_drew]; omega))) hb.size)
  replace B := hid (bt (B.out.alloc (by have := B.out.size; first | omega | (simp only [World.size_alloc]; omega)) _) hb)
  clear hb
  have xa0 : w4.cell? ⟨w.heap.size, 0, none⟩ = some (.int .i64 o) := Qa.out.cell 0
  have xa1 : w4.cell? ⟨w.heap.size, 1, none⟩ = some (.int .i64 k) := Qa.out.cell 1
  have xa2 : w4.cell? ⟨w.heap.size, 2, none⟩ = some (.int .u64 a) := Qa.out.cell 2
  have xa3 : w4.cell? ⟨w.heap.size, 3, none⟩ = some (.int .u64 b) := Qa.out.cell 3
  have xa4 : w4.cell? ⟨w.heap.size, 4, none⟩ = some (.int .u64 c) := Qa.out.cell 4
  have xa5 : w4.cell? ⟨w.heap.size, 5, none⟩ = some (.string p) := Qa.out.cell 5
  have xb0 : w4.cell? ⟨w.heap.size + 1, 0, none⟩ = some (.int .u64 a') := Qb.out.cell 0
  have xb1 : w4.cell? ⟨w.heap.size + 1, 1, none⟩ = some (.int .u64 b') := Qb.out.cell 1
  have xb2 : w4.cell? ⟨w.heap.size + 1, 2, none⟩ = some (.int .u64 c') := Qb.out.cell 2
  have xb3 : w4.cell? ⟨w.heap.size + 1, 3, none⟩ = some (.string p') := Qb.out.cell 3
  have xb4 : w4.cell? ⟨w.heap.size + 1, 4, none⟩ = some (.string m') := Qb.out.cell 4
  go_wp2_with fail
  go_ret
  exact ⟨rfl, B.out⟩

set_option maxHeartbeats 800000 in
set_option maxRecDepth 100000 in
theorem isop_op0 (k : Nat) (a b c : Int) (p : ByteArray) (a' b' c' : Int) (p' m' : ByteArray) (pre : Bool) (w : World) (hp : p.size ≤ maxLen) (hp' : p'.size ≤ maxLen) (hm' : m'.size ≤ maxLen) (hv : Vars w) (f0 : decide (p.size ≤ 2147483647) = true) (f1 : fitB p' m' = true) (s0 : p.size ≤ 2147483647) (s1 : p'.size ≤ 2147483647 ∧ m'.size ≤ 2147483647) (hk : k ≤ 3) (f2 : goodT 0 k a b c p = true) (f3 : verOk ⟨0, 0, 0, p', m'⟩ = true) (r : Bool) (hr : ∀ g h, OpIs (opF 0) g h a' b' c' p' m' a b c p ByteArray.empty (opS 0) ByteArray.empty (k == 1) (decide (k < 3)) (k == 2) pre r) (hown : ∀ g h, OpIs (opF 4) g h a' b' c' p' m' a' b' c' p' ByteArray.empty (opS 4) ByteArray.empty (3 == 1) (decide (3 < 3)) (3 == 2) true true) :
    Calls Tryd.prog 14 #[.agg #[.int .i64 0, .int .i64 (k : Int), .int .u64 a, .int .u64 b, .int .u64 c, .string p], .agg (scells a' b' c' p' m'), .bool pre] w fun e w' => e = .returned (.bool true) ∧ Below w.heap.size w w' := by
  have B := hid (show Below w.heap.size w ((w.alloc (.cells #[.int .i64 0, .int .i64 (k : Int), .int .u64 a, .int .u64 b, .int .u64 c, .string p] 36)).alloc (.cells #[.int .u64 a', .int .u64 b', .int .u64 c', .string p', .string m'] 27)) by go_grown)
  have Z := hid (show w.heap.size + 2 ≤ ((w.alloc (.cells #[.int .i64 0, .int .i64 (k : Int), .int .u64 a, .int .u64 b, .int .u64 c, .string p] 36)).alloc (.cells #[.int .u64 a', .int .u64 b', .int .u64 c', .string p', .string m'] 27)).heap.size by simp only [World.size_alloc]; omega)
  obtain ⟨qa, qb⟩ := two_new w (#[.int .i64 0, .int .i64 (k : Int), .int .u64 a, .int .u64 b, .int .u64 c, .string p]) (#[.int .u64 a', .int .u64 b', .int .u64 c', .string p', .string m']) 36 27
  have Qa := hid qa
  have Qb := hid qb
  clear qa qb
  have HV := hid hv
  clear hv
  have HR := hid hr
  clear hr
  have HO := hid hown
  clear hown
  go_enter Tryd.func14, Tryd.ntmps14
  go_wp2_with fail
  go_at_call 25
  refine (fits13_any _ _ a b c p _ hp).mono ?_
  rintro e w1 ⟨rfl, hb⟩
  replace Qa := hid ((Qa.out).below hb)
  replace Qb := hid ((Qb.out).below hb)
  replace Z := hid (Nat.le_trans (Nat.le_trans Z.out (by first | exact Nat.le_refl _ | omega | (simp only [World.size_alloc, World.size_drew]; omega))) hb.size)
  replace B := hid (bt B.out hb)
  clear hb
  have xa0 : w1.cell? ⟨w.heap.size, 0, none⟩ = some (.int .i64 0) := Qa.out.cell 0
  have xa1 : w1.cell? ⟨w.heap.size, 1, none⟩ = some (.int .i64 (k : Int)) := Qa.out.cell 1
  have xa2 : w1.cell? ⟨w.heap.size, 2, none⟩ = some (.int .u64 a) := Qa.out.cell 2
  have xa3 : w1.cell? ⟨w.heap.size, 3, none⟩ = some (.int .u64 b) := Qa.out.cell 3
  have xa4 : w1.cell? ⟨w.heap.size, 4, none⟩ = some (.int .u64 c) := Qa.out.cell 4
  have xa5 : w1.cell? ⟨w.heap.size, 5, none⟩ = some (.string p) := Qa.out.cell 5
  have xb0 : w1.cell? ⟨w.heap.size + 1, 0, none⟩ = some (.int .u64 a') := Qb.out.cell 0
  have xb1 : w1.cell? ⟨w.heap.size + 1, 1, none⟩ = some (.int .u64 b') := Qb.out.cell 1
  have xb2 : w1.cell? ⟨w.heap.size + 1, 2, none⟩ = some (.int .u64 c') := Qb.out.cell 2
  have xb3 : w1.cell? ⟨w.heap.size + 1, 3, none⟩ = some (.string p') := Qb.out.cell 3
  have xb4 : w1.cell? ⟨w.heap.size + 1, 4, none⟩ = some (.string m') := Qb.out.cell 4
  go_wp2_with fail
  go_at_call 17
  refine (fitB_any a' b' c' p' m' _ hp' hm').mono ?_
  rintro e w2 ⟨rfl, hb⟩
  replace Qa := hid ((Qa.out).below hb)
  replace Qb := hid ((Qb.out).below hb)
  replace Z := hid (Nat.le_trans (Nat.le_trans Z.out (by first | exact Nat.le_refl _ | omega | (simp only [World.size_alloc, World.size_drew]; omega))) hb.size)
  replace B := hid (bt B.out hb)
  clear hb
  have xa0 : w2.cell? ⟨w.heap.size, 0, none⟩ = some (.int .i64 0) := Qa.out.cell 0
  have xa1 : w2.cell? ⟨w.heap.size, 1, none⟩ = some (.int .i64 (k : Int)) := Qa.out.cell 1
  have xa2 : w2.cell? ⟨w.heap.size, 2, none⟩ = some (.int .u64 a) := Qa.out.cell 2
  have xa3 : w2.cell? ⟨w.heap.size, 3, none⟩ = some (.int .u64 b) := Qa.out.cell 3
  have xa4 : w2.cell? ⟨w.heap.size, 4, none⟩ = some (.int .u64 c) := Qa.out.cell 4
  have xa5 : w2.cell? ⟨w.heap.size, 5, none⟩ = some (.string p) := Qa.out.cell 5
  have xb0 : w2.cell? ⟨w.heap.size + 1, 0, none⟩ = some (.int .u64 a') := Qb.out.cell 0
  have xb1 : w2.cell? ⟨w.heap.size + 1, 1, none⟩ = some (.int .u64 b') := Qb.out.cell 1
  have xb2 : w2.cell? ⟨w.heap.size + 1, 2, none⟩ = some (.int .u64 c') := Qb.out.cell 2
  have xb3 : w2.cell? ⟨w.heap.size + 1, 3, none⟩ = some (.string p') := Qb.out.cell 3
  have xb4 : w2.cell? ⟨w.heap.size + 1, 4, none⟩ = some (.string m') := Qb.out.cell 4
  go_wp2_with fail
  go_at_call 34
  refine (goodTerm_any _ _ a b c p _ s0).mono ?_
  rintro e w3 ⟨rfl, hb⟩
  replace Qa := hid ((Qa.out).below hb)
  replace Qb := hid ((Qb.out).below hb)
  replace Z := hid (Nat.le_trans (Nat.le_trans Z.out (by first | exact Nat.le_refl _ | omega | (simp only [World.size_alloc, World.size_drew]; omega))) hb.size)
  replace B := hid (bt B.out hb)
  clear hb
  have xa0 : w3.cell? ⟨w.heap.size, 0, none⟩ = some (.int .i64 0) := Qa.out.cell 0
  have xa1 : w3.cell? ⟨w.heap.size, 1, none⟩ = some (.int .i64 (k : Int)) := Qa.out.cell 1
  have xa2 : w3.cell? ⟨w.heap.size, 2, none⟩ = some (.int .u64 a) := Qa.out.cell 2
  have xa3 : w3.cell? ⟨w.heap.size, 3, none⟩ = some (.int .u64 b) := Qa.out.cell 3
  have xa4 : w3.cell? ⟨w.heap.size, 4, none⟩ = some (.int .u64 c) := Qa.out.cell 4
  have xa5 : w3.cell? ⟨w.heap.size, 5, none⟩ = some (.string p) := Qa.out.cell 5
  have xb0 : w3.cell? ⟨w.heap.size + 1, 0, none⟩ = some (.int .u64 a') := Qb.out.cell 0
  have xb1 : w3.cell? ⟨w.heap.size + 1, 1, none⟩ = some (.int .u64 b') := Qb.out.cell 1
  have xb2 : w3.cell? ⟨w.heap.size + 1, 2, none⟩ = some (.int .u64 c') := Qb.out.cell 2
  have xb3 : w3.cell? ⟨w.heap.size + 1, 3, none⟩ = some (.string p') := Qb.out.cell 3
  have xb4 : w3.cell? ⟨w.heap.size + 1, 4, none⟩ = some (.string m') := Qb.out.cell 4
  go_wp2_with fail
  go_at_call 19
  refine (svGood1 a' b' c' p' m' s1.1 s1.2 _ _ _ (by simp)).mono ?_
  rintro e w4 ⟨rfl, hb⟩
  replace Qa := hid (((Qa.out.alloc _)).below hb)
  replace Qb := hid (((Qb.out.alloc _)).below hb)
  replace Z := hid (Nat.le_trans (Nat.le_trans Z.out (by first | exact Nat.le_refl _ | omega | (simp only [World.size_alloc, World.size_drew]; omega))) hb.size)
  replace B := hid (bt (B.out.alloc (by have := B.out.size; first | omega | (simp only [World.size_alloc]; omega)) _) hb)
  clear hb
  have xa0 : w4.cell? ⟨w.heap.size, 0, none⟩ = some (.int .i64 0) := Qa.out.cell 0
  have xa1 : w4.cell? ⟨w.heap.size, 1, none⟩ = some (.int .i64 (k : Int)) := Qa.out.cell 1
  have xa2 : w4.cell? ⟨w.heap.size, 2, none⟩ = some (.int .u64 a) := Qa.out.cell 2
  have xa3 : w4.cell? ⟨w.heap.size, 3, none⟩ = some (.int .u64 b) := Qa.out.cell 3
  have xa4 : w4.cell? ⟨w.heap.size, 4, none⟩ = some (.int .u64 c) := Qa.out.cell 4
  have xa5 : w4.cell? ⟨w.heap.size, 5, none⟩ = some (.string p) := Qa.out.cell 5
  have xb0 : w4.cell? ⟨w.heap.size + 1, 0, none⟩ = some (.int .u64 a') := Qb.out.cell 0
  have xb1 : w4.cell? ⟨w.heap.size + 1, 1, none⟩ = some (.int .u64 b') := Qb.out.cell 1
  have xb2 : w4.cell? ⟨w.heap.size + 1, 2, none⟩ = some (.int .u64 c') := Qb.out.cell 2
  have xb3 : w4.cell? ⟨w.heap.size + 1, 3, none⟩ = some (.string p') := Qb.out.cell 3
  have xb4 : w4.cell? ⟨w.heap.size + 1, 4, none⟩ = some (.string m') := Qb.out.cell 4
  go_wp2_with fail
  go_at_call 36
  refine (stTerm_3 4 a' b' c' p' m' _).mono ?_
  rintro e w5 ⟨rfl, hb⟩
  replace Qa := hid ((Qa.out).below hb)
  replace Qb := hid ((Qb.out).below hb)
  replace Z := hid (Nat.le_trans (Nat.le_trans Z.out (by first | exact Nat.le_refl _ | omega | (simp only [World.size_alloc, World.size_drew]; omega))) hb.size)
  replace B := hid (bt B.out hb)
  clear hb
  have xa0 : w5.cell? ⟨w.heap.size, 0, none⟩ = some (.int .i64 0) := Qa.out.cell 0
  have xa1 : w5.cell? ⟨w.heap.size, 1, none⟩ = some (.int .i64 (k : Int)) := Qa.out.cell 1
  have xa2 : w5.cell? ⟨w.heap.size, 2, none⟩ = some (.int .u64 a) := Qa.out.cell 2
  have xa3 : w5.cell? ⟨w.heap.size, 3, none⟩ = some (.int .u64 b) := Qa.out.cell 3
  have xa4 : w5.cell? ⟨w.heap.size, 4, none⟩ = some (.int .u64 c) := Qa.out.cell 4
  have xa5 : w5.cell? ⟨w.heap.size, 5, none⟩ = some (.string p) := Qa.out.cell 5
  have xb0 : w5.cell? ⟨w.heap.size + 1, 0, none⟩ = some (.int .u64 a') := Qb.out.cell 0
  have xb1 : w5.cell? ⟨w.heap.size + 1, 1, none⟩ = some (.int .u64 b') := Qb.out.cell 1
  have xb2 : w5.cell? ⟨w.heap.size + 1, 2, none⟩ = some (.int .u64 c') := Qb.out.cell 2
  have xb3 : w5.cell? ⟨w.heap.size + 1, 3, none⟩ = some (.string p') := Qb.out.cell 3
  have xb4 : w5.cell? ⟨w.heap.size + 1, 4, none⟩ = some (.string m') := Qb.out.cell 4
  have hz0 : w.heap.size < w5.heap.size := by have := Z.out; omega
  have hz1 : w.heap.size + 1 < w5.heap.size := by have := Z.out; omega
  go_wp2_with fail
  go_at_call 29
  refine (equalHolds_at 0 k (by omega) hk _ _ rfl rfl a' b' c' p' m' a b c p pre _ _ (HV.out.below (B.out.alloc (by have := B.out.size; omega) _)) HR.out).mono ?_
  rintro e w6 ⟨rfl, hb⟩
  replace Qa := hid (((Qa.out.alloc _)).below hb)
  replace Qb := hid (((Qb.out.alloc _)).below hb)
  have Qt := hid (((Blk.new _ _ _)).below hb)
  replace Z := hid (Nat.le_trans (Nat.le_trans Z.out (by first | exact Nat.le_refl _ | omega | (simp only [World.size_alloc, World.size_drew]; omega))) hb.size)
  replace B := hid (bt (B.out.alloc (by have := B.out.size; first | omega | (simp only [World.size_alloc]; omega)) _) hb)
  clear hb
  have xa0 : w6.cell? ⟨w.heap.size, 0, none⟩ = some (.int .i64 0) := Qa.out.cell 0
  have xa1 : w6.cell? ⟨w.heap.size, 1, none⟩ = some (.int .i64 (k : Int)) := Qa.out.cell 1
  have xa2 : w6.cell? ⟨w.heap.size, 2, none⟩ = some (.int .u64 a) := Qa.out.cell 2
  have xa3 : w6.cell? ⟨w.heap.size, 3, none⟩ = some (.int .u64 b) := Qa.out.cell 3
  have xa4 : w6.cell? ⟨w.heap.size, 4, none⟩ = some (.int .u64 c) := Qa.out.cell 4
  have xa5 : w6.cell? ⟨w.heap.size, 5, none⟩ = some (.string p) := Qa.out.cell 5
  have xb0 : w6.cell? ⟨w.heap.size + 1, 0, none⟩ = some (.int .u64 a') := Qb.out.cell 0
  have xb1 : w6.cell? ⟨w.heap.size + 1, 1, none⟩ = some (.int .u64 b') := Qb.out.cell 1
  have xb2 : w6.cell? ⟨w.heap.size + 1, 2, none⟩ = some (.int .u64 c') := Qb.out.cell 2
  have xb3 : w6.cell? ⟨w.heap.size + 1, 3, none⟩ = some (.string p') := Qb.out.cell 3
  have xb4 : w6.cell? ⟨w.heap.size + 1, 4, none⟩ = some (.string m') := Qb.out.cell 4
  have xt0 : w6.cell? ⟨w5.heap.size, 0, none⟩ = some (.int .i64 4) := Qt.out.cell 0
  have xt1 : w6.cell? ⟨w5.heap.size, 1, none⟩ = some (.int .i64 3) := Qt.out.cell 1
  have xt2 : w6.cell? ⟨w5.heap.size, 2, none⟩ = some (.int .u64 a') := Qt.out.cell 2
  have xt3 : w6.cell? ⟨w5.heap.size, 3, none⟩ = some (.int .u64 b') := Qt.out.cell 3
  have xt4 : w6.cell? ⟨w5.heap.size, 4, none⟩ = some (.int .u64 c') := Qt.out.cell 4
  have xt5 : w6.cell? ⟨w5.heap.size, 5, none⟩ = some (.string p') := Qt.out.cell 5
  go_wp2_with fail
  go_at_call 35
  refine (termHolds_at 0 k (by omega) hk _ _ rfl rfl a' b' c' p' m' a b c p pre _ _ (HV.out.below B.out) HR.out).mono ?_
  rintro e w7 ⟨rfl, hb⟩
  replace Qa := hid ((Qa.out).below hb)
  replace Qb := hid ((Qb.out).below hb)
  replace Qt := hid ((Qt.out).below hb)
  replace Z := hid (Nat.le_trans (Nat.le_trans Z.out (by first | exact Nat.le_refl _ | omega | (simp only [World.size_alloc, World.size_drew]; omega))) hb.size)
  replace B := hid (bt B.out hb)
  clear hb
  have xa0 : w7.cell? ⟨w.heap.size, 0, none⟩ = some (.int .i64 0) := Qa.out.cell 0
  have xa1 : w7.cell? ⟨w.heap.size, 1, none⟩ = some (.int .i64 (k : Int)) := Qa.out.cell 1
  have xa2 : w7.cell? ⟨w.heap.size, 2, none⟩ = some (.int .u64 a) := Qa.out.cell 2
  have xa3 : w7.cell? ⟨w.heap.size, 3, none⟩ = some (.int .u64 b) := Qa.out.cell 3
  have xa4 : w7.cell? ⟨w.heap.size, 4, none⟩ = some (.int .u64 c) := Qa.out.cell 4
  have xa5 : w7.cell? ⟨w.heap.size, 5, none⟩ = some (.string p) := Qa.out.cell 5
  have xb0 : w7.cell? ⟨w.heap.size + 1, 0, none⟩ = some (.int .u64 a') := Qb.out.cell 0
  have xb1 : w7.cell? ⟨w.heap.size + 1, 1, none⟩ = some (.int .u64 b') := Qb.out.cell 1
  have xb2 : w7.cell? ⟨w.heap.size + 1, 2, none⟩ = some (.int .u64 c') := Qb.out.cell 2
  have xb3 : w7.cell? ⟨w.heap.size + 1, 3, none⟩ = some (.string p') := Qb.out.cell 3
  have xb4 : w7.cell? ⟨w.heap.size + 1, 4, none⟩ = some (.string m') := Qb.out.cell 4
  have xt0 : w7.cell? ⟨w5.heap.size, 0, none⟩ = some (.int .i64 4) := Qt.out.cell 0
  have xt1 : w7.cell? ⟨w5.heap.size, 1, none⟩ = some (.int .i64 3) := Qt.out.cell 1
  have xt2 : w7.cell? ⟨w5.heap.size, 2, none⟩ = some (.int .u64 a') := Qt.out.cell 2
  have xt3 : w7.cell? ⟨w5.heap.size, 3, none⟩ = some (.int .u64 b') := Qt.out.cell 3
  have xt4 : w7.cell? ⟨w5.heap.size, 4, none⟩ = some (.int .u64 c') := Qt.out.cell 4
  have xt5 : w7.cell? ⟨w5.heap.size, 5, none⟩ = some (.string p') := Qt.out.cell 5
  go_wp2_with fail
  go_at_call 35
  refine (termHolds_at 4 3 (by omega) (by omega) _ _ rfl rfl a' b' c' p' m' a' b' c' p' true true _ (HV.out.below B.out) HO.out).mono ?_
  rintro e w8 ⟨rfl, hb⟩
  replace Qa := hid ((Qa.out).below hb)
  replace Qb := hid ((Qb.out).below hb)
  replace Qt := hid ((Qt.out).below hb)
  replace Z := hid (Nat.le_trans (Nat.le_trans Z.out (by first | exact Nat.le_refl _ | omega | (simp only [World.size_alloc, World.size_drew]; omega))) hb.size)
  replace B := hid (bt B.out hb)
  clear hb
  have xa0 : w8.cell? ⟨w.heap.size, 0, none⟩ = some (.int .i64 0) := Qa.out.cell 0
  have xa1 : w8.cell? ⟨w.heap.size, 1, none⟩ = some (.int .i64 (k : Int)) := Qa.out.cell 1
  have xa2 : w8.cell? ⟨w.heap.size, 2, none⟩ = some (.int .u64 a) := Qa.out.cell 2
  have xa3 : w8.cell? ⟨w.heap.size, 3, none⟩ = some (.int .u64 b) := Qa.out.cell 3
  have xa4 : w8.cell? ⟨w.heap.size, 4, none⟩ = some (.int .u64 c) := Qa.out.cell 4
  have xa5 : w8.cell? ⟨w.heap.size, 5, none⟩ = some (.string p) := Qa.out.cell 5
  have xb0 : w8.cell? ⟨w.heap.size + 1, 0, none⟩ = some (.int .u64 a') := Qb.out.cell 0
  have xb1 : w8.cell? ⟨w.heap.size + 1, 1, none⟩ = some (.int .u64 b') := Qb.out.cell 1
  have xb2 : w8.cell? ⟨w.heap.size + 1, 2, none⟩ = some (.int .u64 c') := Qb.out.cell 2
  have xb3 : w8.cell? ⟨w.heap.size + 1, 3, none⟩ = some (.string p') := Qb.out.cell 3
  have xb4 : w8.cell? ⟨w.heap.size + 1, 4, none⟩ = some (.string m') := Qb.out.cell 4
  have xt0 : w8.cell? ⟨w5.heap.size, 0, none⟩ = some (.int .i64 4) := Qt.out.cell 0
  have xt1 : w8.cell? ⟨w5.heap.size, 1, none⟩ = some (.int .i64 3) := Qt.out.cell 1
  have xt2 : w8.cell? ⟨w5.heap.size, 2, none⟩ = some (.int .u64 a') := Qt.out.cell 2
  have xt3 : w8.cell? ⟨w5.heap.size, 3, none⟩ = some (.int .u64 b') := Qt.out.cell 3
  have xt4 : w8.cell? ⟨w5.heap.size, 4, none⟩ = some (.int .u64 c') := Qt.out.cell 4
  have xt5 : w8.cell? ⟨w5.heap.size, 5, none⟩ = some (.string p') := Qt.out.cell 5
  go_wp2_with fail
  go_at_call 30
  refine (leastHolds_at 4 3 (by omega) (by omega) _ _ rfl rfl a' b' c' p' m' a' b' c' p' true true _ (HV.out.below B.out) HO.out).mono ?_
  rintro e w9 ⟨rfl, hb⟩
  replace Qa := hid ((Qa.out).below hb)
  replace Qb := hid ((Qb.out).below hb)
  replace Qt := hid ((Qt.out).below hb)
  replace Z := hid (Nat.le_trans (Nat.le_trans Z.out (by first | exact Nat.le_refl _ | omega | (simp only [World.size_alloc, World.size_drew]; omega))) hb.size)
  replace B := hid (bt B.out hb)
  clear hb
  have xa0 : w9.cell? ⟨w.heap.size, 0, none⟩ = some (.int .i64 0) := Qa.out.cell 0
  have xa1 : w9.cell? ⟨w.heap.size, 1, none⟩ = some (.int .i64 (k : Int)) := Qa.out.cell 1
  have xa2 : w9.cell? ⟨w.heap.size, 2, none⟩ = some (.int .u64 a) := Qa.out.cell 2
  have xa3 : w9.cell? ⟨w.heap.size, 3, none⟩ = some (.int .u64 b) := Qa.out.cell 3
  have xa4 : w9.cell? ⟨w.heap.size, 4, none⟩ = some (.int .u64 c) := Qa.out.cell 4
  have xa5 : w9.cell? ⟨w.heap.size, 5, none⟩ = some (.string p) := Qa.out.cell 5
  have xb0 : w9.cell? ⟨w.heap.size + 1, 0, none⟩ = some (.int .u64 a') := Qb.out.cell 0
  have xb1 : w9.cell? ⟨w.heap.size + 1, 1, none⟩ = some (.int .u64 b') := Qb.out.cell 1
  have xb2 : w9.cell? ⟨w.heap.size + 1, 2, none⟩ = some (.int .u64 c') := Qb.out.cell 2
  have xb3 : w9.cell? ⟨w.heap.size + 1, 3, none⟩ = some (.string p') := Qb.out.cell 3
  have xb4 : w9.cell? ⟨w.heap.size + 1, 4, none⟩ = some (.string m') := Qb.out.cell 4
  have xt0 : w9.cell? ⟨w5.heap.size, 0, none⟩ = some (.int .i64 4) := Qt.out.cell 0
  have xt1 : w9.cell? ⟨w5.heap.size, 1, none⟩ = some (.int .i64 3) := Qt.out.cell 1
  have xt2 : w9.cell? ⟨w5.heap.size, 2, none⟩ = some (.int .u64 a') := Qt.out.cell 2
  have xt3 : w9.cell? ⟨w5.heap.size, 3, none⟩ = some (.int .u64 b') := Qt.out.cell 3
  have xt4 : w9.cell? ⟨w5.heap.size, 4, none⟩ = some (.int .u64 c') := Qt.out.cell 4
  have xt5 : w9.cell? ⟨w5.heap.size, 5, none⟩ = some (.string p') := Qt.out.cell 5
  go_wp2_with fail
  go_ret
  exact ⟨rfl, B.out⟩

set_option maxHeartbeats 800000 in
set_option maxRecDepth 100000 in
theorem isop_op1 (k : Nat) (a b c : Int) (p : ByteArray) (a' b' c' : Int) (p' m' : ByteArray) (pre : Bool) (w : World) (hp : p.size ≤ maxLen) (hp' : p'.size ≤ maxLen) (hm' : m'.size ≤ maxLen) (hv : Vars w) (f0 : decide (p.size ≤ 2147483647) = true) (f1 : fitB p' m' = true) (s0 : p.size ≤ 2147483647) (s1 : p'.size ≤ 2147483647 ∧ m'.size ≤ 2147483647) (hk : k ≤ 3) (f2 : goodT 1 k a b c p = true) (f3 : verOk ⟨0, 0, 0, p', m'⟩ = true) (r : Bool) (hr : ∀ g h, OpIs (opF 1) g h a' b' c' p' m' a b c p ByteArray.empty (opS 1) ByteArray.empty (k == 1) (decide (k < 3)) (k == 2) pre r) (hown : ∀ g h, OpIs (opF 4) g h a' b' c' p' m' a' b' c' p' ByteArray.empty (opS 4) ByteArray.empty (3 == 1) (decide (3 < 3)) (3 == 2) true true) :
    Calls Tryd.prog 14 #[.agg #[.int .i64 1, .int .i64 (k : Int), .int .u64 a, .int .u64 b, .int .u64 c, .string p], .agg (scells a' b' c' p' m'), .bool pre] w fun e w' => e = .returned (.bool true) ∧ Below w.heap.size w w' := by
  have B := hid (show Below w.heap.size w ((w.alloc (.cells #[.int .i64 1, .int .i64 (k : Int), .int .u64 a, .int .u64 b, .int .u64 c, .string p] 36)).alloc (.cells #[.int .u64 a', .int .u64 b', .int .u64 c', .string p', .string m'] 27)) by go_grown)
  have Z := hid (show w.heap.size + 2 ≤ ((w.alloc (.cells #[.int .i64 1, .int .i64 (k : Int), .int .u64 a, .int .u64 b, .int .u64 c, .string p] 36)).alloc (.cells #[.int .u64 a', .int .u64 b', .int .u64 c', .string p', .string m'] 27)).heap.size by simp only [World.size_alloc]; omega)
  obtain ⟨qa, qb⟩ := two_new w (#[.int .i64 1, .int .i64 (k : Int), .int .u64 a, .int .u64 b, .int .u64 c, .string p]) (#[.int .u64 a', .int .u64 b', .int .u64 c', .string p', .string m']) 36 27
  have Qa := hid qa
  have Qb := hid qb
  clear qa qb
  have HV := hid hv
  clear hv
  have HR := hid hr
  clear hr
  have HO := hid hown
  clear hown
  go_enter Tryd.func14, Tryd.ntmps14
  go_wp2_with fail
  go_at_call 25
  refine (fits13_any _ _ a b c p _ hp).mono ?_
  rintro e w1 ⟨rfl, hb⟩
  replace Qa := hid ((Qa.out).below hb)
  replace Qb := hid ((Qb.out).below hb)
  replace Z := hid (Nat.le_trans (Nat.le_trans Z.out (by first | exact Nat.le_refl _ | omega | (simp only [World.size_alloc, World.size_drew]; omega))) hb.size)
  replace B := hid (bt B.out hb)
  clear hb
  have xa0 : w1.cell? ⟨w.heap.size, 0, none⟩ = some (.int .i64 1) := Qa.out.cell 0
  have xa1 : w1.cell? ⟨w.heap.size, 1, none⟩ = some (.int .i64 (k : Int)) := Qa.out.cell 1
  have xa2 : w1.cell? ⟨w.heap.size, 2, none⟩ = some (.int .u64 a) := Qa.out.cell 2
  have xa3 : w1.cell? ⟨w.heap.size, 3, none⟩ = some (.int .u64 b) := Qa.out.cell 3
  have xa4 : w1.cell? ⟨w.heap.size, 4, none⟩ = some (.int .u64 c) := Qa.out.cell 4
  have xa5 : w1.cell? ⟨w.heap.size, 5, none⟩ = some (.string p) := Qa.out.cell 5
  have xb0 : w1.cell? ⟨w.heap.size + 1, 0, none⟩ = some (.int .u64 a') := Qb.out.cell 0
  have xb1 : w1.cell? ⟨w.heap.size + 1, 1, none⟩ = some (.int .u64 b') := Qb.out.cell 1
  have xb2 : w1.cell? ⟨w.heap.size + 1, 2, none⟩ = some (.int .u64 c') := Qb.out.cell 2
  have xb3 : w1.cell? ⟨w.heap.size + 1, 3, none⟩ = some (.string p') := Qb.out.cell 3
  have xb4 : w1.cell? ⟨w.heap.size + 1, 4, none⟩ = some (.string m') := Qb.out.cell 4
  go_wp2_with fail
  go_at_call 17
  refine (fitB_any a' b' c' p' m' _ hp' hm').mono ?_
  rintro e w2 ⟨rfl, hb⟩
  replace Qa := hid ((Qa.out).below hb)
  replace Qb := hid ((Qb.out).below hb)
  replace Z := hid (Nat.le_trans (Nat.le_trans Z.out (by first | exact Nat.le_refl _ | omega | (simp only [World.size_alloc, World.size_drew]; omega))) hb.size)
  replace B := hid (bt B.out hb)
  clear hb
  have xa0 : w2.cell? ⟨w.heap.size, 0, none⟩ = some (.int .i64 1) := Qa.out.cell 0
  have xa1 : w2.cell? ⟨w.heap.size, 1, none⟩ = some (.int .i64 (k : Int)) := Qa.out.cell 1
  have xa2 : w2.cell? ⟨w.heap.size, 2, none⟩ = some (.int .u64 a) := Qa.out.cell 2
  have xa3 : w2.cell? ⟨w.heap.size, 3, none⟩ = some (.int .u64 b) := Qa.out.cell 3
  have xa4 : w2.cell? ⟨w.heap.size, 4, none⟩ = some (.int .u64 c) := Qa.out.cell 4
  have xa5 : w2.cell? ⟨w.heap.size, 5, none⟩ = some (.string p) := Qa.out.cell 5
  have xb0 : w2.cell? ⟨w.heap.size + 1, 0, none⟩ = some (.int .u64 a') := Qb.out.cell 0
  have xb1 : w2.cell? ⟨w.heap.size + 1, 1, none⟩ = some (.int .u64 b') := Qb.out.cell 1
  have xb2 : w2.cell? ⟨w.heap.size + 1, 2, none⟩ = some (.int .u64 c') := Qb.out.cell 2
  have xb3 : w2.cell? ⟨w.heap.size + 1, 3, none⟩ = some (.string p') := Qb.out.cell 3
  have xb4 : w2.cell? ⟨w.heap.size + 1, 4, none⟩ = some (.string m') := Qb.out.cell 4
  go_wp2_with fail
  go_at_call 34
  refine (goodTerm_any _ _ a b c p _ s0).mono ?_
  rintro e w3 ⟨rfl, hb⟩
  replace Qa := hid ((Qa.out).below hb)
  replace Qb := hid ((Qb.out).below hb)
  replace Z := hid (Nat.le_trans (Nat.le_trans Z.out (by first | exact Nat.le_refl _ | omega | (simp only [World.size_alloc, World.size_drew]; omega))) hb.size)
  replace B := hid (bt B.out hb)
  clear hb
  have xa0 : w3.cell? ⟨w.heap.size, 0, none⟩ = some (.int .i64 1) := Qa.out.cell 0
  have xa1 : w3.cell? ⟨w.heap.size, 1, none⟩ = some (.int .i64 (k : Int)) := Qa.out.cell 1
  have xa2 : w3.cell? ⟨w.heap.size, 2, none⟩ = some (.int .u64 a) := Qa.out.cell 2
  have xa3 : w3.cell? ⟨w.heap.size, 3, none⟩ = some (.int .u64 b) := Qa.out.cell 3
  have xa4 : w3.cell? ⟨w.heap.size, 4, none⟩ = some (.int .u64 c) := Qa.out.cell 4
  have xa5 : w3.cell? ⟨w.heap.size, 5, none⟩ = some (.string p) := Qa.out.cell 5
  have xb0 : w3.cell? ⟨w.heap.size + 1, 0, none⟩ = some (.int .u64 a') := Qb.out.cell 0
  have xb1 : w3.cell? ⟨w.heap.size + 1, 1, none⟩ = some (.int .u64 b') := Qb.out.cell 1
  have xb2 : w3.cell? ⟨w.heap.size + 1, 2, none⟩ = some (.int .u64 c') := Qb.out.cell 2
  have xb3 : w3.cell? ⟨w.heap.size + 1, 3, none⟩ = some (.string p') := Qb.out.cell 3
  have xb4 : w3.cell? ⟨w.heap.size + 1, 4, none⟩ = some (.string m') := Qb.out.cell 4
  go_wp2_with fail
  go_at_call 19
  refine (svGood1 a' b' c' p' m' s1.1 s1.2 _ _ _ (by simp)).mono ?_
  rintro e w4 ⟨rfl, hb⟩
  replace Qa := hid (((Qa.out.alloc _)).below hb)
  replace Qb := hid (((Qb.out.alloc _)).below hb)
  replace Z := hid (Nat.le_trans (Nat.le_trans Z.out (by first | exact Nat.le_refl _ | omega | (simp only [World.size_alloc, World.size_drew]; omega))) hb.size)
  replace B := hid (bt (B.out.alloc (by have := B.out.size; first | omega | (simp only [World.size_alloc]; omega)) _) hb)
  clear hb
  have xa0 : w4.cell? ⟨w.heap.size, 0, none⟩ = some (.int .i64 1) := Qa.out.cell 0
  have xa1 : w4.cell? ⟨w.heap.size, 1, none⟩ = some (.int .i64 (k : Int)) := Qa.out.cell 1
  have xa2 : w4.cell? ⟨w.heap.size, 2, none⟩ = some (.int .u64 a) := Qa.out.cell 2
  have xa3 : w4.cell? ⟨w.heap.size, 3, none⟩ = some (.int .u64 b) := Qa.out.cell 3
  have xa4 : w4.cell? ⟨w.heap.size, 4, none⟩ = some (.int .u64 c) := Qa.out.cell 4
  have xa5 : w4.cell? ⟨w.heap.size, 5, none⟩ = some (.string p) := Qa.out.cell 5
  have xb0 : w4.cell? ⟨w.heap.size + 1, 0, none⟩ = some (.int .u64 a') := Qb.out.cell 0
  have xb1 : w4.cell? ⟨w.heap.size + 1, 1, none⟩ = some (.int .u64 b') := Qb.out.cell 1
  have xb2 : w4.cell? ⟨w.heap.size + 1, 2, none⟩ = some (.int .u64 c') := Qb.out.cell 2
  have xb3 : w4.cell? ⟨w.heap.size + 1, 3, none⟩ = some (.string p') := Qb.out.cell 3
  have xb4 : w4.cell? ⟨w.heap.size + 1, 4, none⟩ = some (.string m') := Qb.out.cell 4
  go_wp2_with fail
  go_at_call 36
  refine (stTerm_3 4 a' b' c' p' m' _).mono ?_
  rintro e w5 ⟨rfl, hb⟩
  replace Qa := hid ((Qa.out).below hb)
  replace Qb := hid ((Qb.out).below hb)
  replace Z := hid (Nat.le_trans (Nat.le_trans Z.out (by first | exact Nat.le_refl _ | omega | (simp only [World.size_alloc, World.size_drew]; omega))) hb.size)
  replace B := hid (bt B.out hb)
  clear hb
  have xa0 : w5.cell? ⟨w.heap.size, 0, none⟩ = some (.int .i64 1) := Qa.out.cell 0
  have xa1 : w5.cell? ⟨w.heap.size, 1, none⟩ = some (.int .i64 (k : Int)) := Qa.out.cell 1
  have xa2 : w5.cell? ⟨w.heap.size, 2, none⟩ = some (.int .u64 a) := Qa.out.cell 2
  have xa3 : w5.cell? ⟨w.heap.size, 3, none⟩ = some (.int .u64 b) := Qa.out.cell 3
  have xa4 : w5.cell? ⟨w.heap.size, 4, none⟩ = some (.int .u64 c) := Qa.out.cell 4
  have xa5 : w5.cell? ⟨w.heap.size, 5, none⟩ = some (.string p) := Qa.out.cell 5
  have xb0 : w5.cell? ⟨w.heap.size + 1, 0, none⟩ = some (.int .u64 a') := Qb.out.cell 0
  have xb1 : w5.cell? ⟨w.heap.size + 1, 1, none⟩ = some (.int .u64 b') := Qb.out.cell 1
  have xb2 : w5.cell? ⟨w.heap.size + 1, 2, none⟩ = some (.int .u64 c') := Qb.out.cell 2
  have xb3 : w5.cell? ⟨w.heap.size + 1, 3, none⟩ = some (.string p') := Qb.out.cell 3
  have xb4 : w5.cell? ⟨w.heap.size + 1, 4, none⟩ = some (.string m') := Qb.out.cell 4
  have hz0 : w.heap.size < w5.heap.size := by have := Z.out; omega
  have hz1 : w.heap.size + 1 < w5.heap.size := by have := Z.out; omega
  go_wp2_with fail
  go_at_call 47
  refine (notEqualHolds_at 1 k (by omega) hk _ _ rfl rfl a' b' c' p' m' a b c p pre _ _ (HV.out.below (B.out.alloc (by have := B.out.size; omega) _)) HR.out).mono ?_
  rintro e w6 ⟨rfl, hb⟩
  replace Qa := hid (((Qa.out.alloc _)).below hb)
  replace Qb := hid (((Qb.out.alloc _)).below hb)
  have Qt := hid (((Blk.new _ _ _)).below hb)
  replace Z := hid (Nat.le_trans (Nat.le_trans Z.out (by first | exact Nat.le_refl _ | omega | (simp only [World.size_alloc, World.size_drew]; omega))) hb.size)
  replace B := hid (bt (B.out.alloc (by have := B.out.size; first | omega | (simp only [World.size_alloc]; omega)) _) hb)
  clear hb
  have xa0 : w6.cell? ⟨w.heap.size, 0, none⟩ = some (.int .i64 1) := Qa.out.cell 0
  have xa1 : w6.cell? ⟨w.heap.size, 1, none⟩ = some (.int .i64 (k : Int)) := Qa.out.cell 1
  have xa2 : w6.cell? ⟨w.heap.size, 2, none⟩ = some (.int .u64 a) := Qa.out.cell 2
  have xa3 : w6.cell? ⟨w.heap.size, 3, none⟩ = some (.int .u64 b) := Qa.out.cell 3
  have xa4 : w6.cell? ⟨w.heap.size, 4, none⟩ = some (.int .u64 c) := Qa.out.cell 4
  have xa5 : w6.cell? ⟨w.heap.size, 5, none⟩ = some (.string p) := Qa.out.cell 5
  have xb0 : w6.cell? ⟨w.heap.size + 1, 0, none⟩ = some (.int .u64 a') := Qb.out.cell 0
  have xb1 : w6.cell? ⟨w.heap.size + 1, 1, none⟩ = some (.int .u64 b') := Qb.out.cell 1
  have xb2 : w6.cell? ⟨w.heap.size + 1, 2, none⟩ = some (.int .u64 c') := Qb.out.cell 2
  have xb3 : w6.cell? ⟨w.heap.size + 1, 3, none⟩ = some (.string p') := Qb.out.cell 3
  have xb4 : w6.cell? ⟨w.heap.size + 1, 4, none⟩ = some (.string m') := Qb.out.cell 4
  have xt0 : w6.cell? ⟨w5.heap.size, 0, none⟩ = some (.int .i64 4) := Qt.out.cell 0
  have xt1 : w6.cell? ⟨w5.heap.size, 1, none⟩ = some (.int .i64 3) := Qt.out.cell 1
  have xt2 : w6.cell? ⟨w5.heap.size, 2, none⟩ = some (.int .u64 a') := Qt.out.cell 2
  have xt3 : w6.cell? ⟨w5.heap.size, 3, none⟩ = some (.int .u64 b') := Qt.out.cell 3
  have xt4 : w6.cell? ⟨w5.heap.size, 4, none⟩ = some (.int .u64 c') := Qt.out.cell 4
  have xt5 : w6.cell? ⟨w5.heap.size, 5, none⟩ = some (.string p') := Qt.out.cell 5
  go_wp2_with fail
  go_at_call 35
  refine (termHolds_at 1 k (by omega) hk _ _ rfl rfl a' b' c' p' m' a b c p pre _ _ (HV.out.below B.out) HR.out).mono ?_
  rintro e w7 ⟨rfl, hb⟩
  replace Qa := hid ((Qa.out).below hb)
  replace Qb := hid ((Qb.out).below hb)
  replace Qt := hid ((Qt.out).below hb)
  replace Z := hid (Nat.le_trans (Nat.le_trans Z.out (by first | exact Nat.le_refl _ | omega | (simp only [World.size_alloc, World.size_drew]; omega))) hb.size)
  replace B := hid (bt B.out hb)
  clear hb
  have xa0 : w7.cell? ⟨w.heap.size, 0, none⟩ = some (.int .i64 1) := Qa.out.cell 0
  have xa1 : w7.cell? ⟨w.heap.size, 1, none⟩ = some (.int .i64 (k : Int)) := Qa.out.cell 1
  have xa2 : w7.cell? ⟨w.heap.size, 2, none⟩ = some (.int .u64 a) := Qa.out.cell 2
  have xa3 : w7.cell? ⟨w.heap.size, 3, none⟩ = some (.int .u64 b) := Qa.out.cell 3
  have xa4 : w7.cell? ⟨w.heap.size, 4, none⟩ = some (.int .u64 c) := Qa.out.cell 4
  have xa5 : w7.cell? ⟨w.heap.size, 5, none⟩ = some (.string p) := Qa.out.cell 5
  have xb0 : w7.cell? ⟨w.heap.size + 1, 0, none⟩ = some (.int .u64 a') := Qb.out.cell 0
  have xb1 : w7.cell? ⟨w.heap.size + 1, 1, none⟩ = some (.int .u64 b') := Qb.out.cell 1
  have xb2 : w7.cell? ⟨w.heap.size + 1, 2, none⟩ = some (.int .u64 c') := Qb.out.cell 2
  have xb3 : w7.cell? ⟨w.heap.size + 1, 3, none⟩ = some (.string p') := Qb.out.cell 3
  have xb4 : w7.cell? ⟨w.heap.size + 1, 4, none⟩ = some (.string m') := Qb.out.cell 4
  have xt0 : w7.cell? ⟨w5.heap.size, 0, none⟩ = some (.int .i64 4) := Qt.out.cell 0
  have xt1 : w7.cell? ⟨w5.heap.size, 1, none⟩ = some (.int .i64 3) := Qt.out.cell 1
  have xt2 : w7.cell? ⟨w5.heap.size, 2, none⟩ = some (.int .u64 a') := Qt.out.cell 2
  have xt3 : w7.cell? ⟨w5.heap.size, 3, none⟩ = some (.int .u64 b') := Qt.out.cell 3
  have xt4 : w7.cell? ⟨w5.heap.size, 4, none⟩ = some (.int .u64 c') := Qt.out.cell 4
  have xt5 : w7.cell? ⟨w5.heap.size, 5, none⟩ = some (.string p') := Qt.out.cell 5
  go_wp2_with fail
  go_at_call 35
  refine (termHolds_at 4 3 (by omega) (by omega) _ _ rfl rfl a' b' c' p' m' a' b' c' p' true true _ (HV.out.below B.out) HO.out).mono ?_
  rintro e w8 ⟨rfl, hb⟩
  replace Qa := hid ((Qa.out).below hb)
  replace Qb := hid ((Qb.out).below hb)
  replace Qt := hid ((Qt.out).below hb)
  replace Z := hid (Nat.le_trans (Nat.le_trans Z.out (by first | exact Nat.le_refl _ | omega | (simp only [World.size_alloc, World.size_drew]; omega))) hb.size)
  replace B := hid (bt B.out hb)
  clear hb
  have xa0 : w8.cell? ⟨w.heap.size, 0, none⟩ = some (.int .i64 1) := Qa.out.cell 0
  have xa1 : w8.cell? ⟨w.heap.size, 1, none⟩ = some (.int .i64 (k : Int)) := Qa.out.cell 1
  have xa2 : w8.cell? ⟨w.heap.size, 2, none⟩ = some (.int .u64 a) := Qa.out.cell 2
  have xa3 : w8.cell? ⟨w.heap.size, 3, none⟩ = some (.int .u64 b) := Qa.out.cell 3
  have xa4 : w8.cell? ⟨w.heap.size, 4, none⟩ = some (.int .u64 c) := Qa.out.cell 4
  have xa5 : w8.cell? ⟨w.heap.size, 5, none⟩ = some (.string p) := Qa.out.cell 5
  have xb0 : w8.cell? ⟨w.heap.size + 1, 0, none⟩ = some (.int .u64 a') := Qb.out.cell 0
  have xb1 : w8.cell? ⟨w.heap.size + 1, 1, none⟩ = some (.int .u64 b') := Qb.out.cell 1
  have xb2 : w8.cell? ⟨w.heap.size + 1, 2, none⟩ = some (.int .u64 c') := Qb.out.cell 2
  have xb3 : w8.cell? ⟨w.heap.size + 1, 3, none⟩ = some (.string p') := Qb.out.cell 3
  have xb4 : w8.cell? ⟨w.heap.size + 1, 4, none⟩ = some (.string m') := Qb.out.cell 4
  have xt0 : w8.cell? ⟨w5.heap.size, 0, none⟩ = some (.int .i64 4) := Qt.out.cell 0
  have xt1 : w8.cell? ⟨w5.heap.size, 1, none⟩ = some (.int .i64 3) := Qt.out.cell 1
  have xt2 : w8.cell? ⟨w5.heap.size, 2, none⟩ = some (.int .u64 a') := Qt.out.cell 2
  have xt3 : w8.cell? ⟨w5.heap.size, 3, none⟩ = some (.int .u64 b') := Qt.out.cell 3
  have xt4 : w8.cell? ⟨w5.heap.size, 4, none⟩ = some (.int .u64 c') := Qt.out.cell 4
  have xt5 : w8.cell? ⟨w5.heap.size, 5, none⟩ = some (.string p') := Qt.out.cell 5
  go_wp2_with fail
  go_at_call 30
  refine (leastHolds_at 4 3 (by omega) (by omega) _ _ rfl rfl a' b' c' p' m' a' b' c' p' true true _ (HV.out.below B.out) HO.out).mono ?_
  rintro e w9 ⟨rfl, hb⟩
  replace Qa := hid ((Qa.out).below hb)
  replace Qb := hid ((Qb.out).below hb)
  replace Qt := hid ((Qt.out).below hb)
  replace Z := hid (Nat.le_trans (Nat.le_trans Z.out (by first | exact Nat.le_refl _ | omega | (simp only [World.size_alloc, World.size_drew]; omega))) hb.size)
  replace B := hid (bt B.out hb)
  clear hb
  have xa0 : w9.cell? ⟨w.heap.size, 0, none⟩ = some (.int .i64 1) := Qa.out.cell 0
  have xa1 : w9.cell? ⟨w.heap.size, 1, none⟩ = some (.int .i64 (k : Int)) := Qa.out.cell 1
  have xa2 : w9.cell? ⟨w.heap.size, 2, none⟩ = some (.int .u64 a) := Qa.out.cell 2
  have xa3 : w9.cell? ⟨w.heap.size, 3, none⟩ = some (.int .u64 b) := Qa.out.cell 3
  have xa4 : w9.cell? ⟨w.heap.size, 4, none⟩ = some (.int .u64 c) := Qa.out.cell 4
  have xa5 : w9.cell? ⟨w.heap.size, 5, none⟩ = some (.string p) := Qa.out.cell 5
  have xb0 : w9.cell? ⟨w.heap.size + 1, 0, none⟩ = some (.int .u64 a') := Qb.out.cell 0
  have xb1 : w9.cell? ⟨w.heap.size + 1, 1, none⟩ = some (.int .u64 b') := Qb.out.cell 1
  have xb2 : w9.cell? ⟨w.heap.size + 1, 2, none⟩ = some (.int .u64 c') := Qb.out.cell 2
  have xb3 : w9.cell? ⟨w.heap.size + 1, 3, none⟩ = some (.string p') := Qb.out.cell 3
  have xb4 : w9.cell? ⟨w.heap.size + 1, 4, none⟩ = some (.string m') := Qb.out.cell 4
  have xt0 : w9.cell? ⟨w5.heap.size, 0, none⟩ = some (.int .i64 4) := Qt.out.cell 0
  have xt1 : w9.cell? ⟨w5.heap.size, 1, none⟩ = some (.int .i64 3) := Qt.out.cell 1
  have xt2 : w9.cell? ⟨w5.heap.size, 2, none⟩ = some (.int .u64 a') := Qt.out.cell 2
  have xt3 : w9.cell? ⟨w5.heap.size, 3, none⟩ = some (.int .u64 b') := Qt.out.cell 3
  have xt4 : w9.cell? ⟨w5.heap.size, 4, none⟩ = some (.int .u64 c') := Qt.out.cell 4
  have xt5 : w9.cell? ⟨w5.heap.size, 5, none⟩ = some (.string p') := Qt.out.cell 5
  go_wp2_with fail
  go_ret
  exact ⟨rfl, B.out⟩

set_option maxHeartbeats 800000 in
set_option maxRecDepth 100000 in
theorem isop_op2 (k : Nat) (a b c : Int) (p : ByteArray) (a' b' c' : Int) (p' m' : ByteArray) (pre : Bool) (w : World) (hp : p.size ≤ maxLen) (hp' : p'.size ≤ maxLen) (hm' : m'.size ≤ maxLen) (hv : Vars w) (f0 : decide (p.size ≤ 2147483647) = true) (f1 : fitB p' m' = true) (s0 : p.size ≤ 2147483647) (s1 : p'.size ≤ 2147483647 ∧ m'.size ≤ 2147483647) (hk : k ≤ 3) (f2 : goodT 2 k a b c p = true) (f3 : verOk ⟨0, 0, 0, p', m'⟩ = true) (r : Bool) (hr : ∀ g h, OpIs (opF 2) g h a' b' c' p' m' a b c p ByteArray.empty (opS 2) ByteArray.empty (k == 1) (decide (k < 3)) (k == 2) pre r) (hown : ∀ g h, OpIs (opF 4) g h a' b' c' p' m' a' b' c' p' ByteArray.empty (opS 4) ByteArray.empty (3 == 1) (decide (3 < 3)) (3 == 2) true true) :
    Calls Tryd.prog 14 #[.agg #[.int .i64 2, .int .i64 (k : Int), .int .u64 a, .int .u64 b, .int .u64 c, .string p], .agg (scells a' b' c' p' m'), .bool pre] w fun e w' => e = .returned (.bool true) ∧ Below w.heap.size w w' := by
  have B := hid (show Below w.heap.size w ((w.alloc (.cells #[.int .i64 2, .int .i64 (k : Int), .int .u64 a, .int .u64 b, .int .u64 c, .string p] 36)).alloc (.cells #[.int .u64 a', .int .u64 b', .int .u64 c', .string p', .string m'] 27)) by go_grown)
  have Z := hid (show w.heap.size + 2 ≤ ((w.alloc (.cells #[.int .i64 2, .int .i64 (k : Int), .int .u64 a, .int .u64 b, .int .u64 c, .string p] 36)).alloc (.cells #[.int .u64 a', .int .u64 b', .int .u64 c', .string p', .string m'] 27)).heap.size by simp only [World.size_alloc]; omega)
  obtain ⟨qa, qb⟩ := two_new w (#[.int .i64 2, .int .i64 (k : Int), .int .u64 a, .int .u64 b, .int .u64 c, .string p]) (#[.int .u64 a', .int .u64 b', .int .u64 c', .string p', .string m']) 36 27
  have Qa := hid qa
  have Qb := hid qb
  clear qa qb
  have HV := hid hv
  clear hv
  have HR := hid hr
  clear hr
  have HO := hid hown
  clear hown
  go_enter Tryd.func14, Tryd.ntmps14
  go_wp2_with fail
  go_at_call 25
  refine (fits13_any _ _ a b c p _ hp).mono ?_
  rintro e w1 ⟨rfl, hb⟩
  replace Qa := hid ((Qa.out).below hb)
  replace Qb := hid ((Qb.out).below hb)
  replace Z := hid (Nat.le_trans (Nat.le_trans Z.out (by first | exact Nat.le_refl _ | omega | (simp only [World.size_alloc, World.size_drew]; omega))) hb.size)
  replace B := hid (bt B.out hb)
  clear hb
  have xa0 : w1.cell? ⟨w.heap.size, 0, none⟩ = some (.int .i64 2) := Qa.out.cell 0
  have xa1 : w1.cell? ⟨w.heap.size, 1, none⟩ = some (.int .i64 (k : Int)) := Qa.out.cell 1
  have xa2 : w1.cell? ⟨w.heap.size, 2, none⟩ = some (.int .u64 a) := Qa.out.cell 2
  have xa3 : w1.cell? ⟨w.heap.size, 3, none⟩ = some (.int .u64 b) := Qa.out.cell 3
  have xa4 : w1.cell? ⟨w.heap.size, 4, none⟩ = some (.int .u64 c) := Qa.out.cell 4
  have xa5 : w1.cell? ⟨w.heap.size, 5, none⟩ = some (.string p) := Qa.out.cell 5
  have xb0 : w1.cell? ⟨w.heap.size + 1, 0, none⟩ = some (.int .u64 a') := Qb.out.cell 0
  have xb1 : w1.cell? ⟨w.heap.size + 1, 1, none⟩ = some (.int .u64 b') := Qb.out.cell 1
  have xb2 : w1.cell? ⟨w.heap.size + 1, 2, none⟩ = some (.int .u64 c') := Qb.out.cell 2
  have xb3 : w1.cell? ⟨w.heap.size + 1, 3, none⟩ = some (.string p') := Qb.out.cell 3
  have xb4 : w1.cell? ⟨w.heap.size + 1, 4, none⟩ = some (.string m') := Qb.out.cell 4
  go_wp2_with fail
  go_at_call 17
  refine (fitB_any a' b' c' p' m' _ hp' hm').mono ?_
  rintro e w2 ⟨rfl, hb⟩
  replace Qa := hid ((Qa.out).below hb)
  replace Qb := hid ((Qb.out).below hb)
  replace Z := hid (Nat.le_trans (Nat.le_trans Z.out (by first | exact Nat.le_refl _ | omega | (simp only [World.size_alloc, World.size_drew]; omega))) hb.size)
  replace B := hid (bt B.out hb)
  clear hb
  have xa0 : w2.cell? ⟨w.heap.size, 0, none⟩ = some (.int .i64 2) := Qa.out.cell 0
  have xa1 : w2.cell? ⟨w.heap.size, 1, none⟩ = some (.int .i64 (k : Int)) := Qa.out.cell 1
  have xa2 : w2.cell? ⟨w.heap.size, 2, none⟩ = some (.int .u64 a) := Qa.out.cell 2
  have xa3 : w2.cell? ⟨w.heap.size, 3, none⟩ = some (.int .u64 b) := Qa.out.cell 3
  have xa4 : w2.cell? ⟨w.heap.size, 4, none⟩ = some (.int .u64 c) := Qa.out.cell 4
  have xa5 : w2.cell? ⟨w.heap.size, 5, none⟩ = some (.string p) := Qa.out.cell 5
  have xb0 : w2.cell? ⟨w.heap.size + 1, 0, none⟩ = some (.int .u64 a') := Qb.out.cell 0
  have xb1 : w2.cell? ⟨w.heap.size + 1, 1, none⟩ = some (.int .u64 b') := Qb.out.cell 1
  have xb2 : w2.cell? ⟨w.heap.size + 1, 2, none⟩ = some (.int .u64 c') := Qb.out.cell 2
  have xb3 : w2.cell? ⟨w.heap.size + 1, 3, none⟩ = some (.string p') := Qb.out.cell 3
  have xb4 : w2.cell? ⟨w.heap.size + 1, 4, none⟩ = some (.string m') := Qb.out.cell 4
  go_wp2_with fail
  go_at_call 34
  refine (goodTerm_any _ _ a b c p _ s0).mono ?_
  rintro e w3 ⟨rfl, hb⟩
  replace Qa := hid ((Qa.out).below hb)
  replace Qb := hid ((Qb.out).below hb)
  replace Z := hid (Nat.le_trans (Nat.le_trans Z.out (by first | exact Nat.le_refl _ | omega | (simp only [World.size_alloc, World.size_drew]; omega))) hb.size)
  replace B := hid (bt B.out hb)
  clear hb
  have xa0 : w3.cell? ⟨w.heap.size, 0, none⟩ = some (.int .i64 2) := Qa.out.cell 0
  have xa1 : w3.cell? ⟨w.heap.size, 1, none⟩ = some (.int .i64 (k : Int)) := Qa.out.cell 1
  have xa2 : w3.cell? ⟨w.heap.size, 2, none⟩ = some (.int .u64 a) := Qa.out.cell 2
  have xa3 : w3.cell? ⟨w.heap.size, 3, none⟩ = some (.int .u64 b) := Qa.out.cell 3
  have xa4 : w3.cell? ⟨w.heap.size, 4, none⟩ = some (.int .u64 c) := Qa.out.cell 4
  have xa5 : w3.cell? ⟨w.heap.size, 5, none⟩ = some (.string p) := Qa.out.cell 5
  have xb0 : w3.cell? ⟨w.heap.size + 1, 0, none⟩ = some (.int .u64 a') := Qb.out.cell 0
  have xb1 : w3.cell? ⟨w.heap.size + 1, 1, none⟩ = some (.int .u64 b') := Qb.out.cell 1
  have xb2 : w3.cell? ⟨w.heap.size + 1, 2, none⟩ = some (.int .u64 c') := Qb.out.cell 2
  have xb3 : w3.cell? ⟨w.heap.size + 1, 3, none⟩ = some (.string p') := Qb.out.cell 3
  have xb4 : w3.cell? ⟨w.heap.size + 1, 4, none⟩ = some (.string m') := Qb.out.cell 4
  go_wp2_with fail
  go_at_call 19
  refine (svGood1 a' b' c' p' m' s1.1 s1.2 _ _ _ (by simp)).mono ?_
  rintro e w4 ⟨rfl, hb⟩
  replace Qa := hid (((Qa.out.alloc _)).below hb)
  replace Qb := hid (((Qb.out.alloc _)).below hb)
  replace Z := hid (Nat.le_trans (Nat.le_trans Z.out (by first | exact Nat.le_refl _ | omega | (simp only [World.size_alloc, World.size_drew]; omega))) hb.size)
  replace B := hid (bt (B.out.alloc (by have := B.out.size; first | omega | (simp only [World.size_alloc]; omega)) _) hb)
  clear hb
  have xa0 : w4.cell? ⟨w.heap.size, 0, none⟩ = some (.int .i64 2) := Qa.out.cell 0
  have xa1 : w4.cell? ⟨w.heap.size, 1, none⟩ = some (.int .i64 (k : Int)) := Qa.out.cell 1
  have xa2 : w4.cell? ⟨w.heap.size, 2, none⟩ = some (.int .u64 a) := Qa.out.cell 2
  have xa3 : w4.cell? ⟨w.heap.size, 3, none⟩ = some (.int .u64 b) := Qa.out.cell 3
  have xa4 : w4.cell? ⟨w.heap.size, 4, none⟩ = some (.int .u64 c) := Qa.out.cell 4
  have xa5 : w4.cell? ⟨w.heap.size, 5, none⟩ = some (.string p) := Qa.out.cell 5
  have xb0 : w4.cell? ⟨w.heap.size + 1, 0, none⟩ = some (.int .u64 a') := Qb.out.cell 0
  have xb1 : w4.cell? ⟨w.heap.size + 1, 1, none⟩ = some (.int .u64 b') := Qb.out.cell 1
  have xb2 : w4.cell? ⟨w.heap.size + 1, 2, none⟩ = some (.int .u64 c') := Qb.out.cell 2
  have xb3 : w4.cell? ⟨w.heap.size + 1, 3, none⟩ = some (.string p') := Qb.out.cell 3
  have xb4 : w4.cell? ⟨w.heap.size + 1, 4, none⟩ = some (.string m') := Qb.out.cell 4
  go_wp2_with fail
  go_at_call 36
  refine (stTerm_3 4 a' b' c' p' m' _).mono ?_
  rintro e w5 ⟨rfl, hb⟩
  replace Qa := hid ((Qa.out).below hb)
  replace Qb := hid ((Qb.out).below hb)
  replace Z := hid (Nat.le_trans (Nat.le_trans Z.out (by first | exact Nat.le_refl _ | omega | (simp only [World.size_alloc, World.size_drew]; omega))) hb.size)
  replace B := hid (bt B.out hb)
  clear hb
  have xa0 : w5.cell? ⟨w.heap.size, 0, none⟩ = some (.int .i64 2) := Qa.out.cell 0
  have xa1 : w5.cell? ⟨w.heap.size, 1, none⟩ = some (.int .i64 (k : Int)) := Qa.out.cell 1
  have xa2 : w5.cell? ⟨w.heap.size, 2, none⟩ = some (.int .u64 a) := Qa.out.cell 2
  have xa3 : w5.cell? ⟨w.heap.size, 3, none⟩ = some (.int .u64 b) := Qa.out.cell 3
  have xa4 : w5.cell? ⟨w.heap.size, 4, none⟩ = some (.int .u64 c) := Qa.out.cell 4
  have xa5 : w5.cell? ⟨w.heap.size, 5, none⟩ = some (.string p) := Qa.out.cell 5
  have xb0 : w5.cell? ⟨w.heap.size + 1, 0, none⟩ = some (.int .u64 a') := Qb.out.cell 0
  have xb1 : w5.cell? ⟨w.heap.size + 1, 1, none⟩ = some (.int .u64 b') := Qb.out.cell 1
  have xb2 : w5.cell? ⟨w.heap.size + 1, 2, none⟩ = some (.int .u64 c') := Qb.out.cell 2
  have xb3 : w5.cell? ⟨w.heap.size + 1, 3, none⟩ = some (.string p') := Qb.out.cell 3
  have xb4 : w5.cell? ⟨w.heap.size + 1, 4, none⟩ = some (.string m') := Qb.out.cell 4
  have hz0 : w.heap.size < w5.heap.size := by have := Z.out; omega
  have hz1 : w.heap.size + 1 < w5.heap.size := by have := Z.out; omega
  go_wp2_with fail
  go_at_call 48
  refine (aboveHolds_at 2 k (by omega) hk _ _ rfl rfl a' b' c' p' m' a b c p pre _ _ (HV.out.below (B.out.alloc (by have := B.out.size; omega) _)) HR.out).mono ?_
  rintro e w6 ⟨rfl, hb⟩
  replace Qa := hid (((Qa.out.alloc _)).below hb)
  replace Qb := hid (((Qb.out.alloc _)).below hb)
  have Qt := hid (((Blk.new _ _ _)).below hb)
  replace Z := hid (Nat.le_trans (Nat.le_trans Z.out (by first | exact Nat.le_refl _ | omega | (simp only [World.size_alloc, World.size_drew]; omega))) hb.size)
  replace B := hid (bt (B.out.alloc (by have := B.out.size; first | omega | (simp only [World.size_alloc]; omega)) _) hb)
  clear hb
  have xa0 : w6.cell? ⟨w.heap.size, 0, none⟩ = some (.int .i64 2) := Qa.out.cell 0
  have xa1 : w6.cell? ⟨w.heap.size, 1, none⟩ = some (.int .i64 (k : Int)) := Qa.out.cell 1
  have xa2 : w6.cell? ⟨w.heap.size, 2, none⟩ = some (.int .u64 a) := Qa.out.cell 2
  have xa3 : w6.cell? ⟨w.heap.size, 3, none⟩ = some (.int .u64 b) := Qa.out.cell 3
  have xa4 : w6.cell? ⟨w.heap.size, 4, none⟩ = some (.int .u64 c) := Qa.out.cell 4
  have xa5 : w6.cell? ⟨w.heap.size, 5, none⟩ = some (.string p) := Qa.out.cell 5
  have xb0 : w6.cell? ⟨w.heap.size + 1, 0, none⟩ = some (.int .u64 a') := Qb.out.cell 0
  have xb1 : w6.cell? ⟨w.heap.size + 1, 1, none⟩ = some (.int .u64 b') := Qb.out.cell 1
  have xb2 : w6.cell? ⟨w.heap.size + 1, 2, none⟩ = some (.int .u64 c') := Qb.out.cell 2
  have xb3 : w6.cell? ⟨w.heap.size + 1, 3, none⟩ = some (.string p') := Qb.out.cell 3
  have xb4 : w6.cell? ⟨w.heap.size + 1, 4, none⟩ = some (.string m') := Qb.out.cell 4
  have xt0 : w6.cell? ⟨w5.heap.size, 0, none⟩ = some (.int .i64 4) := Qt.out.cell 0
  have xt1 : w6.cell? ⟨w5.heap.size, 1, none⟩ = some (.int .i64 3) := Qt.out.cell 1
  have xt2 : w6.cell? ⟨w5.heap.size, 2, none⟩ = some (.int .u64 a') := Qt.out.cell 2
  have xt3 : w6.cell? ⟨w5.heap.size, 3, none⟩ = some (.int .u64 b') := Qt.out.cell 3
  have xt4 : w6.cell? ⟨w5.heap.size, 4, none⟩ = some (.int .u64 c') := Qt.out.cell 4
  have xt5 : w6.cell? ⟨w5.heap.size, 5, none⟩ = some (.string p') := Qt.out.cell 5
  go_wp2_with fail
  go_at_call 35
  refine (termHolds_at 2 k (by omega) hk _ _ rfl rfl a' b' c' p' m' a b c p pre _ _ (HV.out.below B.out) HR.out).mono ?_
  rintro e w7 ⟨rfl, hb⟩
  replace Qa := hid ((Qa.out).below hb)
  replace Qb := hid ((Qb.out).below hb)
  replace Qt := hid ((Qt.out).below hb)
  replace Z := hid (Nat.le_trans (Nat.le_trans Z.out (by first | exact Nat.le_refl _ | omega | (simp only [World.size_alloc, World.size_drew]; omega))) hb.size)
  replace B := hid (bt B.out hb)
  clear hb
  have xa0 : w7.cell? ⟨w.heap.size, 0, none⟩ = some (.int .i64 2) := Qa.out.cell 0
  have xa1 : w7.cell? ⟨w.heap.size, 1, none⟩ = some (.int .i64 (k : Int)) := Qa.out.cell 1
  have xa2 : w7.cell? ⟨w.heap.size, 2, none⟩ = some (.int .u64 a) := Qa.out.cell 2
  have xa3 : w7.cell? ⟨w.heap.size, 3, none⟩ = some (.int .u64 b) := Qa.out.cell 3
  have xa4 : w7.cell? ⟨w.heap.size, 4, none⟩ = some (.int .u64 c) := Qa.out.cell 4
  have xa5 : w7.cell? ⟨w.heap.size, 5, none⟩ = some (.string p) := Qa.out.cell 5
  have xb0 : w7.cell? ⟨w.heap.size + 1, 0, none⟩ = some (.int .u64 a') := Qb.out.cell 0
  have xb1 : w7.cell? ⟨w.heap.size + 1, 1, none⟩ = some (.int .u64 b') := Qb.out.cell 1
  have xb2 : w7.cell? ⟨w.heap.size + 1, 2, none⟩ = some (.int .u64 c') := Qb.out.cell 2
  have xb3 : w7.cell? ⟨w.heap.size + 1, 3, none⟩ = some (.string p') := Qb.out.cell 3
  have xb4 : w7.cell? ⟨w.heap.size + 1, 4, none⟩ = some (.string m') := Qb.out.cell 4
  have xt0 : w7.cell? ⟨w5.heap.size, 0, none⟩ = some (.int .i64 4) := Qt.out.cell 0
  have xt1 : w7.cell? ⟨w5.heap.size, 1, none⟩ = some (.int .i64 3) := Qt.out.cell 1
  have xt2 : w7.cell? ⟨w5.heap.size, 2, none⟩ = some (.int .u64 a') := Qt.out.cell 2
  have xt3 : w7.cell? ⟨w5.heap.size, 3, none⟩ = some (.int .u64 b') := Qt.out.cell 3
  have xt4 : w7.cell? ⟨w5.heap.size, 4, none⟩ = some (.int .u64 c') := Qt.out.cell 4
  have xt5 : w7.cell? ⟨w5.heap.size, 5, none⟩ = some (.string p') := Qt.out.cell 5
  go_wp2_with fail
  go_at_call 35
  refine (termHolds_at 4 3 (by omega) (by omega) _ _ rfl rfl a' b' c' p' m' a' b' c' p' true true _ (HV.out.below B.out) HO.out).mono ?_
  rintro e w8 ⟨rfl, hb⟩
  replace Qa := hid ((Qa.out).below hb)
  replace Qb := hid ((Qb.out).below hb)
  replace Qt := hid ((Qt.out).below hb)
  replace Z := hid (Nat.le_trans (Nat.le_trans Z.out (by first | exact Nat.le_refl _ | omega | (simp only [World.size_alloc, World.size_drew]; omega))) hb.size)
  replace B := hid (bt B.out hb)
  clear hb
  have xa0 : w8.cell? ⟨w.heap.size, 0, none⟩ = some (.int .i64 2) := Qa.out.cell 0
  have xa1 : w8.cell? ⟨w.heap.size, 1, none⟩ = some (.int .i64 (k : Int)) := Qa.out.cell 1
  have xa2 : w8.cell? ⟨w.heap.size, 2, none⟩ = some (.int .u64 a) := Qa.out.cell 2
  have xa3 : w8.cell? ⟨w.heap.size, 3, none⟩ = some (.int .u64 b) := Qa.out.cell 3
  have xa4 : w8.cell? ⟨w.heap.size, 4, none⟩ = some (.int .u64 c) := Qa.out.cell 4
  have xa5 : w8.cell? ⟨w.heap.size, 5, none⟩ = some (.string p) := Qa.out.cell 5
  have xb0 : w8.cell? ⟨w.heap.size + 1, 0, none⟩ = some (.int .u64 a') := Qb.out.cell 0
  have xb1 : w8.cell? ⟨w.heap.size + 1, 1, none⟩ = some (.int .u64 b') := Qb.out.cell 1
  have xb2 : w8.cell? ⟨w.heap.size + 1, 2, none⟩ = some (.int .u64 c') := Qb.out.cell 2
  have xb3 : w8.cell? ⟨w.heap.size + 1, 3, none⟩ = some (.string p') := Qb.out.cell 3
  have xb4 : w8.cell? ⟨w.heap.size + 1, 4, none⟩ = some (.string m') := Qb.out.cell 4
  have xt0 : w8.cell? ⟨w5.heap.size, 0, none⟩ = some (.int .i64 4) := Qt.out.cell 0
  have xt1 : w8.cell? ⟨w5.heap.size, 1, none⟩ = some (.int .i64 3) := Qt.out.cell 1
  have xt2 : w8.cell? ⟨w5.heap.size, 2, none⟩ = some (.int .u64 a') := Qt.out.cell 2
  have xt3 : w8.cell? ⟨w5.heap.size, 3, none⟩ = some (.int .u64 b') := Qt.out.cell 3
  have xt4 : w8.cell? ⟨w5.heap.size, 4, none⟩ = some (.int .u64 c') := Qt.out.cell 4
  have xt5 : w8.cell? ⟨w5.heap.size, 5, none⟩ = some (.string p') := Qt.out.cell 5
  go_wp2_with fail
  go_at_call 30
  refine (leastHolds_at 4 3 (by omega) (by omega) _ _ rfl rfl a' b' c' p' m' a' b' c' p' true true _ (HV.out.below B.out) HO.out).mono ?_
  rintro e w9 ⟨rfl, hb⟩
  replace Qa := hid ((Qa.out).below hb)
  replace Qb := hid ((Qb.out).below hb)
  replace Qt := hid ((Qt.out).below hb)
  replace Z := hid (Nat.le_trans (Nat.le_trans Z.out (by first | exact Nat.le_refl _ | omega | (simp only [World.size_alloc, World.size_drew]; omega))) hb.size)
  replace B := hid (bt B.out hb)
  clear hb
  have xa0 : w9.cell? ⟨w.heap.size, 0, none⟩ = some (.int .i64 2) := Qa.out.cell 0
  have xa1 : w9.cell? ⟨w.heap.size, 1, none⟩ = some (.int .i64 (k : Int)) := Qa.out.cell 1
  have xa2 : w9.cell? ⟨w.heap.size, 2, none⟩ = some (.int .u64 a) := Qa.out.cell 2
  have xa3 : w9.cell? ⟨w.heap.size, 3, none⟩ = some (.int .u64 b) := Qa.out.cell 3
  have xa4 : w9.cell? ⟨w.heap.size, 4, none⟩ = some (.int .u64 c) := Qa.out.cell 4
  have xa5 : w9.cell? ⟨w.heap.size, 5, none⟩ = some (.string p) := Qa.out.cell 5
  have xb0 : w9.cell? ⟨w.heap.size + 1, 0, none⟩ = some (.int .u64 a') := Qb.out.cell 0
  have xb1 : w9.cell? ⟨w.heap.size + 1, 1, none⟩ = some (.int .u64 b') := Qb.out.cell 1
  have xb2 : w9.cell? ⟨w.heap.size + 1, 2, none⟩ = some (.int .u64 c') := Qb.out.cell 2
  have xb3 : w9.cell? ⟨w.heap.size + 1, 3, none⟩ = some (.string p') := Qb.out.cell 3
  have xb4 : w9.cell? ⟨w.heap.size + 1, 4, none⟩ = some (.string m') := Qb.out.cell 4
  have xt0 : w9.cell? ⟨w5.heap.size, 0, none⟩ = some (.int .i64 4) := Qt.out.cell 0
  have xt1 : w9.cell? ⟨w5.heap.size, 1, none⟩ = some (.int .i64 3) := Qt.out.cell 1
  have xt2 : w9.cell? ⟨w5.heap.size, 2, none⟩ = some (.int .u64 a') := Qt.out.cell 2
  have xt3 : w9.cell? ⟨w5.heap.size, 3, none⟩ = some (.int .u64 b') := Qt.out.cell 3
  have xt4 : w9.cell? ⟨w5.heap.size, 4, none⟩ = some (.int .u64 c') := Qt.out.cell 4
  have xt5 : w9.cell? ⟨w5.heap.size, 5, none⟩ = some (.string p') := Qt.out.cell 5
  go_wp2_with fail
  go_ret
  exact ⟨rfl, B.out⟩

set_option maxHeartbeats 800000 in
set_option maxRecDepth 100000 in
theorem isop_op3 (k : Nat) (a b c : Int) (p : ByteArray) (a' b' c' : Int) (p' m' : ByteArray) (pre : Bool) (w : World) (hp : p.size ≤ maxLen) (hp' : p'.size ≤ maxLen) (hm' : m'.size ≤ maxLen) (hv : Vars w) (f0 : decide (p.size ≤ 2147483647) = true) (f1 : fitB p' m' = true) (s0 : p.size ≤ 2147483647) (s1 : p'.size ≤ 2147483647 ∧ m'.size ≤ 2147483647) (hk : k ≤ 3) (f2 : goodT 3 k a b c p = true) (f3 : verOk ⟨0, 0, 0, p', m'⟩ = true) (r : Bool) (hr : ∀ g h, OpIs (opF 3) g h a' b' c' p' m' a b c p ByteArray.empty (opS 3) ByteArray.empty (k == 1) (decide (k < 3)) (k == 2) pre r) (hown : ∀ g h, OpIs (opF 4) g h a' b' c' p' m' a' b' c' p' ByteArray.empty (opS 4) ByteArray.empty (3 == 1) (decide (3 < 3)) (3 == 2) true true) :
    Calls Tryd.prog 14 #[.agg #[.int .i64 3, .int .i64 (k : Int), .int .u64 a, .int .u64 b, .int .u64 c, .string p], .agg (scells a' b' c' p' m'), .bool pre] w fun e w' => e = .returned (.bool true) ∧ Below w.heap.size w w' := by
  have B := hid (show Below w.heap.size w ((w.alloc (.cells #[.int .i64 3, .int .i64 (k : Int), .int .u64 a, .int .u64 b, .int .u64 c, .string p] 36)).alloc (.cells #[.int .u64 a', .int .u64 b', .int .u64 c', .string p', .string m'] 27)) by go_grown)
  have Z := hid (show w.heap.size + 2 ≤ ((w.alloc (.cells #[.int .i64 3, .int .i64 (k : Int), .int .u64 a, .int .u64 b, .int .u64 c, .string p] 36)).alloc (.cells #[.int .u64 a', .int .u64 b', .int .u64 c', .string p', .string m'] 27)).heap.size by simp only [World.size_alloc]; omega)
  obtain ⟨qa, qb⟩ := two_new w (#[.int .i64 3, .int .i64 (k : Int), .int .u64 a, .int .u64 b, .int .u64 c, .string p]) (#[.int .u64 a', .int .u64 b', .int .u64 c', .string p', .string m']) 36 27
  have Qa := hid qa
  have Qb := hid qb
  clear qa qb
  have HV := hid hv
  clear hv
  have HR := hid hr
  clear hr
  have HO := hid hown
  clear hown
  go_enter Tryd.func14, Tryd.ntmps14
  go_wp2_with fail
  go_at_call 25
  refine (fits13_any _ _ a b c p _ hp).mono ?_
  rintro e w1 ⟨rfl, hb⟩
  replace Qa := hid ((Qa.out).below hb)
  replace Qb := hid ((Qb.out).below hb)
  replace Z := hid (Nat.le_trans (Nat.le_trans Z.out (by first | exact Nat.le_refl _ | omega | (simp only [World.size_alloc, World.size_drew]; omega))) hb.size)
  replace B := hid (bt B.out hb)
  clear hb
  have xa0 : w1.cell? ⟨w.heap.size, 0, none⟩ = some (.int .i64 3) := Qa.out.cell 0
  have xa1 : w1.cell? ⟨w.heap.size, 1, none⟩ = some (.int .i64 (k : Int)) := Qa.out.cell 1
  have xa2 : w1.cell? ⟨w.heap.size, 2, none⟩ = some (.int .u64 a) := Qa.out.cell 2
  have xa3 : w1.cell? ⟨w.heap.size, 3, none⟩ = some (.int .u64 b) := Qa.out.cell 3
  have xa4 : w1.cell? ⟨w.heap.size, 4, none⟩ = some (.int .u64 c) := Qa.out.cell 4
  have xa5 : w1.cell? ⟨w.heap.size, 5, none⟩ = some (.string p) := Qa.out.cell 5
  have xb0 : w1.cell? ⟨w.heap.size + 1, 0, none⟩ = some (.int .u64 a') := Qb.out.cell 0
  have xb1 : w1.cell? ⟨w.heap.size + 1, 1, none⟩ = some (.int .u64 b') := Qb.out.cell 1
  have xb2 : w1.cell? ⟨w.heap.size + 1, 2, none⟩ = some (.int .u64 c') := Qb.out.cell 2
  have xb3 : w1.cell? ⟨w.heap.size + 1, 3, none⟩ = some (.string p') := Qb.out.cell 3
  have xb4 : w1.cell? ⟨w.heap.size + 1, 4, none⟩ = some (.string m') := Qb.out.cell 4
  go_wp2_with fail
  go_at_call 17
  refine (fitB_any a' b' c' p' m' _ hp' hm').mono ?_
  rintro e w2 ⟨rfl, hb⟩
  replace Qa := hid ((Qa.out).below hb)
  replace Qb := hid ((Qb.out).below hb)
  replace Z := hid (Nat.le_trans (Nat.le_trans Z.out (by first | exact Nat.le_refl _ | omega | (simp only [World.size_alloc, World.size_drew]; omega))) hb.size)
  replace B := hid (bt B.out hb)
  clear hb
  have xa0 : w2.cell? ⟨w.heap.size, 0, none⟩ = some (.int .i64 3) := Qa.out.cell 0
  have xa1 : w2.cell? ⟨w.heap.size, 1, none⟩ = some (.int .i64 (k : Int)) := Qa.out.cell 1
  have xa2 : w2.cell? ⟨w.heap.size, 2, none⟩ = some (.int .u64 a) := Qa.out.cell 2
  have xa3 : w2.cell? ⟨w.heap.size, 3, none⟩ = some (.int .u64 b) := Qa.out.cell 3
  have xa4 : w2.cell? ⟨w.heap.size, 4, none⟩ = some (.int .u64 c) := Qa.out.cell 4
  have xa5 : w2.cell? ⟨w.heap.size, 5, none⟩ = some (.string p) := Qa.out.cell 5
  have xb0 : w2.cell? ⟨w.heap.size + 1, 0, none⟩ = some (.int .u64 a') := Qb.out.cell 0
  have xb1 : w2.cell? ⟨w.heap.size + 1, 1, none⟩ = some (.int .u64 b') := Qb.out.cell 1
  have xb2 : w2.cell? ⟨w.heap.size + 1, 2, none⟩ = some (.int .u64 c') := Qb.out.cell 2
  have xb3 : w2.cell? ⟨w.heap.size + 1, 3, none⟩ = some (.string p') := Qb.out.cell 3
  have xb4 : w2.cell? ⟨w.heap.size + 1, 4, none⟩ = some (.string m') := Qb.out.cell 4
  go_wp2_with fail
  go_at_call 34
  refine (goodTerm_any _ _ a b c p _ s0).mono ?_
  rintro e w3 ⟨rfl, hb⟩
  replace Qa := hid ((Qa.out).below hb)
  replace Qb := hid ((Qb.out).below hb)
  replace Z := hid (Nat.le_trans (Nat.le_trans Z.out (by first | exact Nat.le_refl _ | omega | (simp only [World.size_alloc, World.size_drew]; omega))) hb.size)
  replace B := hid (bt B.out hb)
  clear hb
  have xa0 : w3.cell? ⟨w.heap.size, 0, none⟩ = some (.int .i64 3) := Qa.out.cell 0
  have xa1 : w3.cell? ⟨w.heap.size, 1, none⟩ = some (.int .i64 (k : Int)) := Qa.out.cell 1
  have xa2 : w3.cell? ⟨w.heap.size, 2, none⟩ = some (.int .u64 a) := Qa.out.cell 2
  have xa3 : w3.cell? ⟨w.heap.size, 3, none⟩ = some (.int .u64 b) := Qa.out.cell 3
  have xa4 : w3.cell? ⟨w.heap.size, 4, none⟩ = some (.int .u64 c) := Qa.out.cell 4
  have xa5 : w3.cell? ⟨w.heap.size, 5, none⟩ = some (.string p) := Qa.out.cell 5
  have xb0 : w3.cell? ⟨w.heap.size + 1, 0, none⟩ = some (.int .u64 a') := Qb.out.cell 0
  have xb1 : w3.cell? ⟨w.heap.size + 1, 1, none⟩ = some (.int .u64 b') := Qb.out.cell 1
  have xb2 : w3.cell? ⟨w.heap.size + 1, 2, none⟩ = some (.int .u64 c') := Qb.out.cell 2
  have xb3 : w3.cell? ⟨w.heap.size + 1, 3, none⟩ = some (.string p') := Qb.out.cell 3
  have xb4 : w3.cell? ⟨w.heap.size + 1, 4, none⟩ = some (.string m') := Qb.out.cell 4
  go_wp2_with fail
  go_at_call 19
  refine (svGood1 a' b' c' p' m' s1.1 s1.2 _ _ _ (by simp)).mono ?_
  rintro e w4 ⟨rfl, hb⟩
  replace Qa := hid (((Qa.out.alloc _)).below hb)
  replace Qb := hid (((Qb.out.alloc _)).below hb)
  replace Z := hid (Nat.le_trans (Nat.le_trans Z.out (by first | exact Nat.le_refl _ | omega | (simp only [World.size_alloc, World.size_drew]; omega))) hb.size)
  replace B := hid (bt (B.out.alloc (by have := B.out.size; first | omega | (simp only [World.size_alloc]; omega)) _) hb)
  clear hb
  have xa0 : w4.cell? ⟨w.heap.size, 0, none⟩ = some (.int .i64 3) := Qa.out.cell 0
  have xa1 : w4.cell? ⟨w.heap.size, 1, none⟩ = some (.int .i64 (k : Int)) := Qa.out.cell 1
  have xa2 : w4.cell? ⟨w.heap.size, 2, none⟩ = some (.int .u64 a) := Qa.out.cell 2
  have xa3 : w4.cell? ⟨w.heap.size, 3, none⟩ = some (.int .u64 b) := Qa.out.cell 3
  have xa4 : w4.cell? ⟨w.heap.size, 4, none⟩ = some (.int .u64 c) := Qa.out.cell 4
  have xa5 : w4.cell? ⟨w.heap.size, 5, none⟩ = some (.string p) := Qa.out.cell 5
  have xb0 : w4.cell? ⟨w.heap.size + 1, 0, none⟩ = some (.int .u64 a') := Qb.out.cell 0
  have xb1 : w4.cell? ⟨w.heap.size + 1, 1, none⟩ = some (.int .u64 b') := Qb.out.cell 1
  have xb2 : w4.cell? ⟨w.heap.size + 1, 2, none⟩ = some (.int .u64 c') := Qb.out.cell 2
  have xb3 : w4.cell? ⟨w.heap.size + 1, 3, none⟩ = some (.string p') := Qb.out.cell 3
  have xb4 : w4.cell? ⟨w.heap.size + 1, 4, none⟩ = some (.string m') := Qb.out.cell 4
  go_wp2_with fail
  go_at_call 36
  refine (stTerm_3 4 a' b' c' p' m' _).mono ?_
  rintro e w5 ⟨rfl, hb⟩
  replace Qa := hid ((Qa.out).below hb)
  replace Qb := hid ((Qb.out).below hb)
  replace Z := hid (Nat.le_trans (Nat.le_trans Z.out (by first | exact Nat.le_refl _ | omega | (simp only [World.size_alloc, World.size_drew]; omega))) hb.size)
  replace B := hid (bt B.out hb)
  clear hb
  have xa0 : w5.cell? ⟨w.heap.size, 0, none⟩ = some (.int .i64 3) := Qa.out.cell 0
  have xa1 : w5.cell? ⟨w.heap.size, 1, none⟩ = some (.int .i64 (k : Int)) := Qa.out.cell 1
  have xa2 : w5.cell? ⟨w.heap.size, 2, none⟩ = some (.int .u64 a) := Qa.out.cell 2
  have xa3 : w5.cell? ⟨w.heap.size, 3, none⟩ = some (.int .u64 b) := Qa.out.cell 3
  have xa4 : w5.cell? ⟨w.heap.size, 4, none⟩ = some (.int .u64 c) := Qa.out.cell 4
  have xa5 : w5.cell? ⟨w.heap.size, 5, none⟩ = some (.string p) := Qa.out.cell 5
  have xb0 : w5.cell? ⟨w.heap.size + 1, 0, none⟩ = some (.int .u64 a') := Qb.out.cell 0
  have xb1 : w5.cell? ⟨w.heap.size + 1, 1, none⟩ = some (.int .u64 b') := Qb.out.cell 1
  have xb2 : w5.cell? ⟨w.heap.size + 1, 2, none⟩ = some (.int .u64 c') := Qb.out.cell 2
  have xb3 : w5.cell? ⟨w.heap.size + 1, 3, none⟩ = some (.string p') := Qb.out.cell 3
  have xb4 : w5.cell? ⟨w.heap.size + 1, 4, none⟩ = some (.string m') := Qb.out.cell 4
  have hz0 : w.heap.size < w5.heap.size := by have := Z.out; omega
  have hz1 : w.heap.size + 1 < w5.heap.size := by have := Z.out; omega
  go_wp2_with fail
  go_at_call 49
  refine (belowHolds_at 3 k (by omega) hk _ _ rfl rfl a' b' c' p' m' a b c p pre _ _ (HV.out.below (B.out.alloc (by have := B.out.size; omega) _)) HR.out).mono ?_
  rintro e w6 ⟨rfl, hb⟩
  replace Qa := hid (((Qa.out.alloc _)).below hb)
  replace Qb := hid (((Qb.out.alloc _)).below hb)
  have Qt := hid (((Blk.new _ _ _)).below hb)
  replace Z := hid (Nat.le_trans (Nat.le_trans Z.out (by first | exact Nat.le_refl _ | omega | (simp only [World.size_alloc, World.size_drew]; omega))) hb.size)
  replace B := hid (bt (B.out.alloc (by have := B.out.size; first | omega | (simp only [World.size_alloc]; omega)) _) hb)
  clear hb
  have xa0 : w6.cell? ⟨w.heap.size, 0, none⟩ = some (.int .i64 3) := Qa.out.cell 0
  have xa1 : w6.cell? ⟨w.heap.size, 1, none⟩ = some (.int .i64 (k : Int)) := Qa.out.cell 1
  have xa2 : w6.cell? ⟨w.heap.size, 2, none⟩ = some (.int .u64 a) := Qa.out.cell 2
  have xa3 : w6.cell? ⟨w.heap.size, 3, none⟩ = some (.int .u64 b) := Qa.out.cell 3
  have xa4 : w6.cell? ⟨w.heap.size, 4, none⟩ = some (.int .u64 c) := Qa.out.cell 4
  have xa5 : w6.cell? ⟨w.heap.size, 5, none⟩ = some (.string p) := Qa.out.cell 5
  have xb0 : w6.cell? ⟨w.heap.size + 1, 0, none⟩ = some (.int .u64 a') := Qb.out.cell 0
  have xb1 : w6.cell? ⟨w.heap.size + 1, 1, none⟩ = some (.int .u64 b') := Qb.out.cell 1
  have xb2 : w6.cell? ⟨w.heap.size + 1, 2, none⟩ = some (.int .u64 c') := Qb.out.cell 2
  have xb3 : w6.cell? ⟨w.heap.size + 1, 3, none⟩ = some (.string p') := Qb.out.cell 3
  have xb4 : w6.cell? ⟨w.heap.size + 1, 4, none⟩ = some (.string m') := Qb.out.cell 4
  have xt0 : w6.cell? ⟨w5.heap.size, 0, none⟩ = some (.int .i64 4) := Qt.out.cell 0
  have xt1 : w6.cell? ⟨w5.heap.size, 1, none⟩ = some (.int .i64 3) := Qt.out.cell 1
  have xt2 : w6.cell? ⟨w5.heap.size, 2, none⟩ = some (.int .u64 a') := Qt.out.cell 2
  have xt3 : w6.cell? ⟨w5.heap.size, 3, none⟩ = some (.int .u64 b') := Qt.out.cell 3
  have xt4 : w6.cell? ⟨w5.heap.size, 4, none⟩ = some (.int .u64 c') := Qt.out.cell 4
  have xt5 : w6.cell? ⟨w5.heap.size, 5, none⟩ = some (.string p') := Qt.out.cell 5
  go_wp2_with fail
  go_at_call 35
  refine (termHolds_at 3 k (by omega) hk _ _ rfl rfl a' b' c' p' m' a b c p pre _ _ (HV.out.below B.out) HR.out).mono ?_
  rintro e w7 ⟨rfl, hb⟩
  replace Qa := hid ((Qa.out).below hb)
  replace Qb := hid ((Qb.out).below hb)
  replace Qt := hid ((Qt.out).below hb)
  replace Z := hid (Nat.le_trans (Nat.le_trans Z.out (by first | exact Nat.le_refl _ | omega | (simp only [World.size_alloc, World.size_drew]; omega))) hb.size)
  replace B := hid (bt B.out hb)
  clear hb
  have xa0 : w7.cell? ⟨w.heap.size, 0, none⟩ = some (.int .i64 3) := Qa.out.cell 0
  have xa1 : w7.cell? ⟨w.heap.size, 1, none⟩ = some (.int .i64 (k : Int)) := Qa.out.cell 1
  have xa2 : w7.cell? ⟨w.heap.size, 2, none⟩ = some (.int .u64 a) := Qa.out.cell 2
  have xa3 : w7.cell? ⟨w.heap.size, 3, none⟩ = some (.int .u64 b) := Qa.out.cell 3
  have xa4 : w7.cell? ⟨w.heap.size, 4, none⟩ = some (.int .u64 c) := Qa.out.cell 4
  have xa5 : w7.cell? ⟨w.heap.size, 5, none⟩ = some (.string p) := Qa.out.cell 5
  have xb0 : w7.cell? ⟨w.heap.size + 1, 0, none⟩ = some (.int .u64 a') := Qb.out.cell 0
  have xb1 : w7.cell? ⟨w.heap.size + 1, 1, none⟩ = some (.int .u64 b') := Qb.out.cell 1
  have xb2 : w7.cell? ⟨w.heap.size + 1, 2, none⟩ = some (.int .u64 c') := Qb.out.cell 2
  have xb3 : w7.cell? ⟨w.heap.size + 1, 3, none⟩ = some (.string p') := Qb.out.cell 3
  have xb4 : w7.cell? ⟨w.heap.size + 1, 4, none⟩ = some (.string m') := Qb.out.cell 4
  have xt0 : w7.cell? ⟨w5.heap.size, 0, none⟩ = some (.int .i64 4) := Qt.out.cell 0
  have xt1 : w7.cell? ⟨w5.heap.size, 1, none⟩ = some (.int .i64 3) := Qt.out.cell 1
  have xt2 : w7.cell? ⟨w5.heap.size, 2, none⟩ = some (.int .u64 a') := Qt.out.cell 2
  have xt3 : w7.cell? ⟨w5.heap.size, 3, none⟩ = some (.int .u64 b') := Qt.out.cell 3
  have xt4 : w7.cell? ⟨w5.heap.size, 4, none⟩ = some (.int .u64 c') := Qt.out.cell 4
  have xt5 : w7.cell? ⟨w5.heap.size, 5, none⟩ = some (.string p') := Qt.out.cell 5
  go_wp2_with fail
  go_at_call 35
  refine (termHolds_at 4 3 (by omega) (by omega) _ _ rfl rfl a' b' c' p' m' a' b' c' p' true true _ (HV.out.below B.out) HO.out).mono ?_
  rintro e w8 ⟨rfl, hb⟩
  replace Qa := hid ((Qa.out).below hb)
  replace Qb := hid ((Qb.out).below hb)
  replace Qt := hid ((Qt.out).below hb)
  replace Z := hid (Nat.le_trans (Nat.le_trans Z.out (by first | exact Nat.le_refl _ | omega | (simp only [World.size_alloc, World.size_drew]; omega))) hb.size)
  replace B := hid (bt B.out hb)
  clear hb
  have xa0 : w8.cell? ⟨w.heap.size, 0, none⟩ = some (.int .i64 3) := Qa.out.cell 0
  have xa1 : w8.cell? ⟨w.heap.size, 1, none⟩ = some (.int .i64 (k : Int)) := Qa.out.cell 1
  have xa2 : w8.cell? ⟨w.heap.size, 2, none⟩ = some (.int .u64 a) := Qa.out.cell 2
  have xa3 : w8.cell? ⟨w.heap.size, 3, none⟩ = some (.int .u64 b) := Qa.out.cell 3
  have xa4 : w8.cell? ⟨w.heap.size, 4, none⟩ = some (.int .u64 c) := Qa.out.cell 4
  have xa5 : w8.cell? ⟨w.heap.size, 5, none⟩ = some (.string p) := Qa.out.cell 5
  have xb0 : w8.cell? ⟨w.heap.size + 1, 0, none⟩ = some (.int .u64 a') := Qb.out.cell 0
  have xb1 : w8.cell? ⟨w.heap.size + 1, 1, none⟩ = some (.int .u64 b') := Qb.out.cell 1
  have xb2 : w8.cell? ⟨w.heap.size + 1, 2, none⟩ = some (.int .u64 c') := Qb.out.cell 2
  have xb3 : w8.cell? ⟨w.heap.size + 1, 3, none⟩ = some (.string p') := Qb.out.cell 3
  have xb4 : w8.cell? ⟨w.heap.size + 1, 4, none⟩ = some (.string m') := Qb.out.cell 4
  have xt0 : w8.cell? ⟨w5.heap.size, 0, none⟩ = some (.int .i64 4) := Qt.out.cell 0
  have xt1 : w8.cell? ⟨w5.heap.size, 1, none⟩ = some (.int .i64 3) := Qt.out.cell 1
  have xt2 : w8.cell? ⟨w5.heap.size, 2, none⟩ = some (.int .u64 a') := Qt.out.cell 2
  have xt3 : w8.cell? ⟨w5.heap.size, 3, none⟩ = some (.int .u64 b') := Qt.out.cell 3
  have xt4 : w8.cell? ⟨w5.heap.size, 4, none⟩ = some (.int .u64 c') := Qt.out.cell 4
  have xt5 : w8.cell? ⟨w5.heap.size, 5, none⟩ = some (.string p') := Qt.out.cell 5
  go_wp2_with fail
  go_at_call 30
  refine (leastHolds_at 4 3 (by omega) (by omega) _ _ rfl rfl a' b' c' p' m' a' b' c' p' true true _ (HV.out.below B.out) HO.out).mono ?_
  rintro e w9 ⟨rfl, hb⟩
  replace Qa := hid ((Qa.out).below hb)
  replace Qb := hid ((Qb.out).below hb)
  replace Qt := hid ((Qt.out).below hb)
  replace Z := hid (Nat.le_trans (Nat.le_trans Z.out (by first | exact Nat.le_refl _ | omega | (simp only [World.size_alloc, World.size_drew]; omega))) hb.size)
  replace B := hid (bt B.out hb)
  clear hb
  have xa0 : w9.cell? ⟨w.heap.size, 0, none⟩ = some (.int .i64 3) := Qa.out.cell 0
  have xa1 : w9.cell? ⟨w.heap.size, 1, none⟩ = some (.int .i64 (k : Int)) := Qa.out.cell 1
  have xa2 : w9.cell? ⟨w.heap.size, 2, none⟩ = some (.int .u64 a) := Qa.out.cell 2
  have xa3 : w9.cell? ⟨w.heap.size, 3, none⟩ = some (.int .u64 b) := Qa.out.cell 3
  have xa4 : w9.cell? ⟨w.heap.size, 4, none⟩ = some (.int .u64 c) := Qa.out.cell 4
  have xa5 : w9.cell? ⟨w.heap.size, 5, none⟩ = some (.string p) := Qa.out.cell 5
  have xb0 : w9.cell? ⟨w.heap.size + 1, 0, none⟩ = some (.int .u64 a') := Qb.out.cell 0
  have xb1 : w9.cell? ⟨w.heap.size + 1, 1, none⟩ = some (.int .u64 b') := Qb.out.cell 1
  have xb2 : w9.cell? ⟨w.heap.size + 1, 2, none⟩ = some (.int .u64 c') := Qb.out.cell 2
  have xb3 : w9.cell? ⟨w.heap.size + 1, 3, none⟩ = some (.string p') := Qb.out.cell 3
  have xb4 : w9.cell? ⟨w.heap.size + 1, 4, none⟩ = some (.string m') := Qb.out.cell 4
  have xt0 : w9.cell? ⟨w5.heap.size, 0, none⟩ = some (.int .i64 4) := Qt.out.cell 0
  have xt1 : w9.cell? ⟨w5.heap.size, 1, none⟩ = some (.int .i64 3) := Qt.out.cell 1
  have xt2 : w9.cell? ⟨w5.heap.size, 2, none⟩ = some (.int .u64 a') := Qt.out.cell 2
  have xt3 : w9.cell? ⟨w5.heap.size, 3, none⟩ = some (.int .u64 b') := Qt.out.cell 3
  have xt4 : w9.cell? ⟨w5.heap.size, 4, none⟩ = some (.int .u64 c') := Qt.out.cell 4
  have xt5 : w9.cell? ⟨w5.heap.size, 5, none⟩ = some (.string p') := Qt.out.cell 5
  go_wp2_with fail
  go_ret
  exact ⟨rfl, B.out⟩

end Go.Proofs.YtmlbjcdildaldaaDoor

set_option linter.unusedVariables false
set_option linter.unusedSimpArgs false
namespace Go.Proofs.YtmlbjcdildaldaaDoor
open Go.RowKit

set_option maxHeartbeats 800000 in
set_option maxRecDepth 100000 in
theorem isop_op4 (k : Nat) (a b c : Int) (p : ByteArray) (a' b' c' : Int) (p' m' : ByteArray) (pre : Bool) (w : World) (hp : p.size ≤ maxLen) (hp' : p'.size ≤ maxLen) (hm' : m'.size ≤ maxLen) (hv : Vars w) (f0 : decide (p.size ≤ 2147483647) = true) (f1 : fitB p' m' = true) (s0 : p.size ≤ 2147483647) (s1 : p'.size ≤ 2147483647 ∧ m'.size ≤ 2147483647) (hk : k ≤ 3) (f2 : goodT 4 k a b c p = true) (f3 : verOk ⟨0, 0, 0, p', m'⟩ = true) (r : Bool) (hr : ∀ g h, OpIs (opF 4) g h a' b' c' p' m' a b c p ByteArray.empty (opS 4) ByteArray.empty (k == 1) (decide (k < 3)) (k == 2) pre r) (hown : ∀ g h, OpIs (opF 4) g h a' b' c' p' m' a' b' c' p' ByteArray.empty (opS 4) ByteArray.empty (3 == 1) (decide (3 < 3)) (3 == 2) true true) :
    Calls Tryd.prog 14 #[.agg #[.int .i64 4, .int .i64 (k : Int), .int .u64 a, .int .u64 b, .int .u64 c, .string p], .agg (scells a' b' c' p' m'), .bool pre] w fun e w' => e = .returned (.bool true) ∧ Below w.heap.size w w' := by
  have B := hid (show Below w.heap.size w ((w.alloc (.cells #[.int .i64 4, .int .i64 (k : Int), .int .u64 a, .int .u64 b, .int .u64 c, .string p] 36)).alloc (.cells #[.int .u64 a', .int .u64 b', .int .u64 c', .string p', .string m'] 27)) by go_grown)
  have Z := hid (show w.heap.size + 2 ≤ ((w.alloc (.cells #[.int .i64 4, .int .i64 (k : Int), .int .u64 a, .int .u64 b, .int .u64 c, .string p] 36)).alloc (.cells #[.int .u64 a', .int .u64 b', .int .u64 c', .string p', .string m'] 27)).heap.size by simp only [World.size_alloc]; omega)
  obtain ⟨qa, qb⟩ := two_new w (#[.int .i64 4, .int .i64 (k : Int), .int .u64 a, .int .u64 b, .int .u64 c, .string p]) (#[.int .u64 a', .int .u64 b', .int .u64 c', .string p', .string m']) 36 27
  have Qa := hid qa
  have Qb := hid qb
  clear qa qb
  have HV := hid hv
  clear hv
  have HR := hid hr
  clear hr
  have HO := hid hown
  clear hown
  go_enter Tryd.func14, Tryd.ntmps14
  go_wp2_with fail
  go_at_call 25
  refine (fits13_any _ _ a b c p _ hp).mono ?_
  rintro e w1 ⟨rfl, hb⟩
  replace Qa := hid ((Qa.out).below hb)
  replace Qb := hid ((Qb.out).below hb)
  replace Z := hid (Nat.le_trans (Nat.le_trans Z.out (by first | exact Nat.le_refl _ | omega | (simp only [World.size_alloc, World.size_drew]; omega))) hb.size)
  replace B := hid (bt B.out hb)
  clear hb
  have xa0 : w1.cell? ⟨w.heap.size, 0, none⟩ = some (.int .i64 4) := Qa.out.cell 0
  have xa1 : w1.cell? ⟨w.heap.size, 1, none⟩ = some (.int .i64 (k : Int)) := Qa.out.cell 1
  have xa2 : w1.cell? ⟨w.heap.size, 2, none⟩ = some (.int .u64 a) := Qa.out.cell 2
  have xa3 : w1.cell? ⟨w.heap.size, 3, none⟩ = some (.int .u64 b) := Qa.out.cell 3
  have xa4 : w1.cell? ⟨w.heap.size, 4, none⟩ = some (.int .u64 c) := Qa.out.cell 4
  have xa5 : w1.cell? ⟨w.heap.size, 5, none⟩ = some (.string p) := Qa.out.cell 5
  have xb0 : w1.cell? ⟨w.heap.size + 1, 0, none⟩ = some (.int .u64 a') := Qb.out.cell 0
  have xb1 : w1.cell? ⟨w.heap.size + 1, 1, none⟩ = some (.int .u64 b') := Qb.out.cell 1
  have xb2 : w1.cell? ⟨w.heap.size + 1, 2, none⟩ = some (.int .u64 c') := Qb.out.cell 2
  have xb3 : w1.cell? ⟨w.heap.size + 1, 3, none⟩ = some (.string p') := Qb.out.cell 3
  have xb4 : w1.cell? ⟨w.heap.size + 1, 4, none⟩ = some (.string m') := Qb.out.cell 4
  go_wp2_with fail
  go_at_call 17
  refine (fitB_any a' b' c' p' m' _ hp' hm').mono ?_
  rintro e w2 ⟨rfl, hb⟩
  replace Qa := hid ((Qa.out).below hb)
  replace Qb := hid ((Qb.out).below hb)
  replace Z := hid (Nat.le_trans (Nat.le_trans Z.out (by first | exact Nat.le_refl _ | omega | (simp only [World.size_alloc, World.size_drew]; omega))) hb.size)
  replace B := hid (bt B.out hb)
  clear hb
  have xa0 : w2.cell? ⟨w.heap.size, 0, none⟩ = some (.int .i64 4) := Qa.out.cell 0
  have xa1 : w2.cell? ⟨w.heap.size, 1, none⟩ = some (.int .i64 (k : Int)) := Qa.out.cell 1
  have xa2 : w2.cell? ⟨w.heap.size, 2, none⟩ = some (.int .u64 a) := Qa.out.cell 2
  have xa3 : w2.cell? ⟨w.heap.size, 3, none⟩ = some (.int .u64 b) := Qa.out.cell 3
  have xa4 : w2.cell? ⟨w.heap.size, 4, none⟩ = some (.int .u64 c) := Qa.out.cell 4
  have xa5 : w2.cell? ⟨w.heap.size, 5, none⟩ = some (.string p) := Qa.out.cell 5
  have xb0 : w2.cell? ⟨w.heap.size + 1, 0, none⟩ = some (.int .u64 a') := Qb.out.cell 0
  have xb1 : w2.cell? ⟨w.heap.size + 1, 1, none⟩ = some (.int .u64 b') := Qb.out.cell 1
  have xb2 : w2.cell? ⟨w.heap.size + 1, 2, none⟩ = some (.int .u64 c') := Qb.out.cell 2
  have xb3 : w2.cell? ⟨w.heap.size + 1, 3, none⟩ = some (.string p') := Qb.out.cell 3
  have xb4 : w2.cell? ⟨w.heap.size + 1, 4, none⟩ = some (.string m') := Qb.out.cell 4
  go_wp2_with fail
  go_at_call 34
  refine (goodTerm_any _ _ a b c p _ s0).mono ?_
  rintro e w3 ⟨rfl, hb⟩
  replace Qa := hid ((Qa.out).below hb)
  replace Qb := hid ((Qb.out).below hb)
  replace Z := hid (Nat.le_trans (Nat.le_trans Z.out (by first | exact Nat.le_refl _ | omega | (simp only [World.size_alloc, World.size_drew]; omega))) hb.size)
  replace B := hid (bt B.out hb)
  clear hb
  have xa0 : w3.cell? ⟨w.heap.size, 0, none⟩ = some (.int .i64 4) := Qa.out.cell 0
  have xa1 : w3.cell? ⟨w.heap.size, 1, none⟩ = some (.int .i64 (k : Int)) := Qa.out.cell 1
  have xa2 : w3.cell? ⟨w.heap.size, 2, none⟩ = some (.int .u64 a) := Qa.out.cell 2
  have xa3 : w3.cell? ⟨w.heap.size, 3, none⟩ = some (.int .u64 b) := Qa.out.cell 3
  have xa4 : w3.cell? ⟨w.heap.size, 4, none⟩ = some (.int .u64 c) := Qa.out.cell 4
  have xa5 : w3.cell? ⟨w.heap.size, 5, none⟩ = some (.string p) := Qa.out.cell 5
  have xb0 : w3.cell? ⟨w.heap.size + 1, 0, none⟩ = some (.int .u64 a') := Qb.out.cell 0
  have xb1 : w3.cell? ⟨w.heap.size + 1, 1, none⟩ = some (.int .u64 b') := Qb.out.cell 1
  have xb2 : w3.cell? ⟨w.heap.size + 1, 2, none⟩ = some (.int .u64 c') := Qb.out.cell 2
  have xb3 : w3.cell? ⟨w.heap.size + 1, 3, none⟩ = some (.string p') := Qb.out.cell 3
  have xb4 : w3.cell? ⟨w.heap.size + 1, 4, none⟩ = some (.string m') := Qb.out.cell 4
  go_wp2_with fail
  go_at_call 19
  refine (svGood1 a' b' c' p' m' s1.1 s1.2 _ _ _ (by simp)).mono ?_
  rintro e w4 ⟨rfl, hb⟩
  replace Qa := hid (((Qa.out.alloc _)).below hb)
  replace Qb := hid (((Qb.out.alloc _)).below hb)
  replace Z := hid (Nat.le_trans (Nat.le_trans Z.out (by first | exact Nat.le_refl _ | omega | (simp only [World.size_alloc, World.size_drew]; omega))) hb.size)
  replace B := hid (bt (B.out.alloc (by have := B.out.size; first | omega | (simp only [World.size_alloc]; omega)) _) hb)
  clear hb
  have xa0 : w4.cell? ⟨w.heap.size, 0, none⟩ = some (.int .i64 4) := Qa.out.cell 0
  have xa1 : w4.cell? ⟨w.heap.size, 1, none⟩ = some (.int .i64 (k : Int)) := Qa.out.cell 1
  have xa2 : w4.cell? ⟨w.heap.size, 2, none⟩ = some (.int .u64 a) := Qa.out.cell 2
  have xa3 : w4.cell? ⟨w.heap.size, 3, none⟩ = some (.int .u64 b) := Qa.out.cell 3
  have xa4 : w4.cell? ⟨w.heap.size, 4, none⟩ = some (.int .u64 c) := Qa.out.cell 4
  have xa5 : w4.cell? ⟨w.heap.size, 5, none⟩ = some (.string p) := Qa.out.cell 5
  have xb0 : w4.cell? ⟨w.heap.size + 1, 0, none⟩ = some (.int .u64 a') := Qb.out.cell 0
  have xb1 : w4.cell? ⟨w.heap.size + 1, 1, none⟩ = some (.int .u64 b') := Qb.out.cell 1
  have xb2 : w4.cell? ⟨w.heap.size + 1, 2, none⟩ = some (.int .u64 c') := Qb.out.cell 2
  have xb3 : w4.cell? ⟨w.heap.size + 1, 3, none⟩ = some (.string p') := Qb.out.cell 3
  have xb4 : w4.cell? ⟨w.heap.size + 1, 4, none⟩ = some (.string m') := Qb.out.cell 4
  go_wp2_with fail
  go_at_call 36
  refine (stTerm_3 4 a' b' c' p' m' _).mono ?_
  rintro e w5 ⟨rfl, hb⟩
  replace Qa := hid ((Qa.out).below hb)
  replace Qb := hid ((Qb.out).below hb)
  replace Z := hid (Nat.le_trans (Nat.le_trans Z.out (by first | exact Nat.le_refl _ | omega | (simp only [World.size_alloc, World.size_drew]; omega))) hb.size)
  replace B := hid (bt B.out hb)
  clear hb
  have xa0 : w5.cell? ⟨w.heap.size, 0, none⟩ = some (.int .i64 4) := Qa.out.cell 0
  have xa1 : w5.cell? ⟨w.heap.size, 1, none⟩ = some (.int .i64 (k : Int)) := Qa.out.cell 1
  have xa2 : w5.cell? ⟨w.heap.size, 2, none⟩ = some (.int .u64 a) := Qa.out.cell 2
  have xa3 : w5.cell? ⟨w.heap.size, 3, none⟩ = some (.int .u64 b) := Qa.out.cell 3
  have xa4 : w5.cell? ⟨w.heap.size, 4, none⟩ = some (.int .u64 c) := Qa.out.cell 4
  have xa5 : w5.cell? ⟨w.heap.size, 5, none⟩ = some (.string p) := Qa.out.cell 5
  have xb0 : w5.cell? ⟨w.heap.size + 1, 0, none⟩ = some (.int .u64 a') := Qb.out.cell 0
  have xb1 : w5.cell? ⟨w.heap.size + 1, 1, none⟩ = some (.int .u64 b') := Qb.out.cell 1
  have xb2 : w5.cell? ⟨w.heap.size + 1, 2, none⟩ = some (.int .u64 c') := Qb.out.cell 2
  have xb3 : w5.cell? ⟨w.heap.size + 1, 3, none⟩ = some (.string p') := Qb.out.cell 3
  have xb4 : w5.cell? ⟨w.heap.size + 1, 4, none⟩ = some (.string m') := Qb.out.cell 4
  have hz0 : w.heap.size < w5.heap.size := by have := Z.out; omega
  have hz1 : w.heap.size + 1 < w5.heap.size := by have := Z.out; omega
  go_wp2_with fail
  go_at_call 30
  refine (leastHolds_at 4 k (by omega) hk _ _ rfl rfl a' b' c' p' m' a b c p pre _ _ (HV.out.below (B.out.alloc (by have := B.out.size; omega) _)) HR.out).mono ?_
  rintro e w6 ⟨rfl, hb⟩
  replace Qa := hid (((Qa.out.alloc _)).below hb)
  replace Qb := hid (((Qb.out.alloc _)).below hb)
  have Qt := hid (((Blk.new _ _ _)).below hb)
  replace Z := hid (Nat.le_trans (Nat.le_trans Z.out (by first | exact Nat.le_refl _ | omega | (simp only [World.size_alloc, World.size_drew]; omega))) hb.size)
  replace B := hid (bt (B.out.alloc (by have := B.out.size; first | omega | (simp only [World.size_alloc]; omega)) _) hb)
  clear hb
  have xa0 : w6.cell? ⟨w.heap.size, 0, none⟩ = some (.int .i64 4) := Qa.out.cell 0
  have xa1 : w6.cell? ⟨w.heap.size, 1, none⟩ = some (.int .i64 (k : Int)) := Qa.out.cell 1
  have xa2 : w6.cell? ⟨w.heap.size, 2, none⟩ = some (.int .u64 a) := Qa.out.cell 2
  have xa3 : w6.cell? ⟨w.heap.size, 3, none⟩ = some (.int .u64 b) := Qa.out.cell 3
  have xa4 : w6.cell? ⟨w.heap.size, 4, none⟩ = some (.int .u64 c) := Qa.out.cell 4
  have xa5 : w6.cell? ⟨w.heap.size, 5, none⟩ = some (.string p) := Qa.out.cell 5
  have xb0 : w6.cell? ⟨w.heap.size + 1, 0, none⟩ = some (.int .u64 a') := Qb.out.cell 0
  have xb1 : w6.cell? ⟨w.heap.size + 1, 1, none⟩ = some (.int .u64 b') := Qb.out.cell 1
  have xb2 : w6.cell? ⟨w.heap.size + 1, 2, none⟩ = some (.int .u64 c') := Qb.out.cell 2
  have xb3 : w6.cell? ⟨w.heap.size + 1, 3, none⟩ = some (.string p') := Qb.out.cell 3
  have xb4 : w6.cell? ⟨w.heap.size + 1, 4, none⟩ = some (.string m') := Qb.out.cell 4
  have xt0 : w6.cell? ⟨w5.heap.size, 0, none⟩ = some (.int .i64 4) := Qt.out.cell 0
  have xt1 : w6.cell? ⟨w5.heap.size, 1, none⟩ = some (.int .i64 3) := Qt.out.cell 1
  have xt2 : w6.cell? ⟨w5.heap.size, 2, none⟩ = some (.int .u64 a') := Qt.out.cell 2
  have xt3 : w6.cell? ⟨w5.heap.size, 3, none⟩ = some (.int .u64 b') := Qt.out.cell 3
  have xt4 : w6.cell? ⟨w5.heap.size, 4, none⟩ = some (.int .u64 c') := Qt.out.cell 4
  have xt5 : w6.cell? ⟨w5.heap.size, 5, none⟩ = some (.string p') := Qt.out.cell 5
  go_wp2_with fail
  go_at_call 35
  refine (termHolds_at 4 k (by omega) hk _ _ rfl rfl a' b' c' p' m' a b c p pre _ _ (HV.out.below B.out) HR.out).mono ?_
  rintro e w7 ⟨rfl, hb⟩
  replace Qa := hid ((Qa.out).below hb)
  replace Qb := hid ((Qb.out).below hb)
  replace Qt := hid ((Qt.out).below hb)
  replace Z := hid (Nat.le_trans (Nat.le_trans Z.out (by first | exact Nat.le_refl _ | omega | (simp only [World.size_alloc, World.size_drew]; omega))) hb.size)
  replace B := hid (bt B.out hb)
  clear hb
  have xa0 : w7.cell? ⟨w.heap.size, 0, none⟩ = some (.int .i64 4) := Qa.out.cell 0
  have xa1 : w7.cell? ⟨w.heap.size, 1, none⟩ = some (.int .i64 (k : Int)) := Qa.out.cell 1
  have xa2 : w7.cell? ⟨w.heap.size, 2, none⟩ = some (.int .u64 a) := Qa.out.cell 2
  have xa3 : w7.cell? ⟨w.heap.size, 3, none⟩ = some (.int .u64 b) := Qa.out.cell 3
  have xa4 : w7.cell? ⟨w.heap.size, 4, none⟩ = some (.int .u64 c) := Qa.out.cell 4
  have xa5 : w7.cell? ⟨w.heap.size, 5, none⟩ = some (.string p) := Qa.out.cell 5
  have xb0 : w7.cell? ⟨w.heap.size + 1, 0, none⟩ = some (.int .u64 a') := Qb.out.cell 0
  have xb1 : w7.cell? ⟨w.heap.size + 1, 1, none⟩ = some (.int .u64 b') := Qb.out.cell 1
  have xb2 : w7.cell? ⟨w.heap.size + 1, 2, none⟩ = some (.int .u64 c') := Qb.out.cell 2
  have xb3 : w7.cell? ⟨w.heap.size + 1, 3, none⟩ = some (.string p') := Qb.out.cell 3
  have xb4 : w7.cell? ⟨w.heap.size + 1, 4, none⟩ = some (.string m') := Qb.out.cell 4
  have xt0 : w7.cell? ⟨w5.heap.size, 0, none⟩ = some (.int .i64 4) := Qt.out.cell 0
  have xt1 : w7.cell? ⟨w5.heap.size, 1, none⟩ = some (.int .i64 3) := Qt.out.cell 1
  have xt2 : w7.cell? ⟨w5.heap.size, 2, none⟩ = some (.int .u64 a') := Qt.out.cell 2
  have xt3 : w7.cell? ⟨w5.heap.size, 3, none⟩ = some (.int .u64 b') := Qt.out.cell 3
  have xt4 : w7.cell? ⟨w5.heap.size, 4, none⟩ = some (.int .u64 c') := Qt.out.cell 4
  have xt5 : w7.cell? ⟨w5.heap.size, 5, none⟩ = some (.string p') := Qt.out.cell 5
  go_wp2_with fail
  go_at_call 35
  refine (termHolds_at 4 3 (by omega) (by omega) _ _ rfl rfl a' b' c' p' m' a' b' c' p' true true _ (HV.out.below B.out) HO.out).mono ?_
  rintro e w8 ⟨rfl, hb⟩
  replace Qa := hid ((Qa.out).below hb)
  replace Qb := hid ((Qb.out).below hb)
  replace Qt := hid ((Qt.out).below hb)
  replace Z := hid (Nat.le_trans (Nat.le_trans Z.out (by first | exact Nat.le_refl _ | omega | (simp only [World.size_alloc, World.size_drew]; omega))) hb.size)
  replace B := hid (bt B.out hb)
  clear hb
  have xa0 : w8.cell? ⟨w.heap.size, 0, none⟩ = some (.int .i64 4) := Qa.out.cell 0
  have xa1 : w8.cell? ⟨w.heap.size, 1, none⟩ = some (.int .i64 (k : Int)) := Qa.out.cell 1
  have xa2 : w8.cell? ⟨w.heap.size, 2, none⟩ = some (.int .u64 a) := Qa.out.cell 2
  have xa3 : w8.cell? ⟨w.heap.size, 3, none⟩ = some (.int .u64 b) := Qa.out.cell 3
  have xa4 : w8.cell? ⟨w.heap.size, 4, none⟩ = some (.int .u64 c) := Qa.out.cell 4
  have xa5 : w8.cell? ⟨w.heap.size, 5, none⟩ = some (.string p) := Qa.out.cell 5
  have xb0 : w8.cell? ⟨w.heap.size + 1, 0, none⟩ = some (.int .u64 a') := Qb.out.cell 0
  have xb1 : w8.cell? ⟨w.heap.size + 1, 1, none⟩ = some (.int .u64 b') := Qb.out.cell 1
  have xb2 : w8.cell? ⟨w.heap.size + 1, 2, none⟩ = some (.int .u64 c') := Qb.out.cell 2
  have xb3 : w8.cell? ⟨w.heap.size + 1, 3, none⟩ = some (.string p') := Qb.out.cell 3
  have xb4 : w8.cell? ⟨w.heap.size + 1, 4, none⟩ = some (.string m') := Qb.out.cell 4
  have xt0 : w8.cell? ⟨w5.heap.size, 0, none⟩ = some (.int .i64 4) := Qt.out.cell 0
  have xt1 : w8.cell? ⟨w5.heap.size, 1, none⟩ = some (.int .i64 3) := Qt.out.cell 1
  have xt2 : w8.cell? ⟨w5.heap.size, 2, none⟩ = some (.int .u64 a') := Qt.out.cell 2
  have xt3 : w8.cell? ⟨w5.heap.size, 3, none⟩ = some (.int .u64 b') := Qt.out.cell 3
  have xt4 : w8.cell? ⟨w5.heap.size, 4, none⟩ = some (.int .u64 c') := Qt.out.cell 4
  have xt5 : w8.cell? ⟨w5.heap.size, 5, none⟩ = some (.string p') := Qt.out.cell 5
  go_wp2_with fail
  go_at_call 30
  refine (leastHolds_at 4 3 (by omega) (by omega) _ _ rfl rfl a' b' c' p' m' a' b' c' p' true true _ (HV.out.below B.out) HO.out).mono ?_
  rintro e w9 ⟨rfl, hb⟩
  replace Qa := hid ((Qa.out).below hb)
  replace Qb := hid ((Qb.out).below hb)
  replace Qt := hid ((Qt.out).below hb)
  replace Z := hid (Nat.le_trans (Nat.le_trans Z.out (by first | exact Nat.le_refl _ | omega | (simp only [World.size_alloc, World.size_drew]; omega))) hb.size)
  replace B := hid (bt B.out hb)
  clear hb
  have xa0 : w9.cell? ⟨w.heap.size, 0, none⟩ = some (.int .i64 4) := Qa.out.cell 0
  have xa1 : w9.cell? ⟨w.heap.size, 1, none⟩ = some (.int .i64 (k : Int)) := Qa.out.cell 1
  have xa2 : w9.cell? ⟨w.heap.size, 2, none⟩ = some (.int .u64 a) := Qa.out.cell 2
  have xa3 : w9.cell? ⟨w.heap.size, 3, none⟩ = some (.int .u64 b) := Qa.out.cell 3
  have xa4 : w9.cell? ⟨w.heap.size, 4, none⟩ = some (.int .u64 c) := Qa.out.cell 4
  have xa5 : w9.cell? ⟨w.heap.size, 5, none⟩ = some (.string p) := Qa.out.cell 5
  have xb0 : w9.cell? ⟨w.heap.size + 1, 0, none⟩ = some (.int .u64 a') := Qb.out.cell 0
  have xb1 : w9.cell? ⟨w.heap.size + 1, 1, none⟩ = some (.int .u64 b') := Qb.out.cell 1
  have xb2 : w9.cell? ⟨w.heap.size + 1, 2, none⟩ = some (.int .u64 c') := Qb.out.cell 2
  have xb3 : w9.cell? ⟨w.heap.size + 1, 3, none⟩ = some (.string p') := Qb.out.cell 3
  have xb4 : w9.cell? ⟨w.heap.size + 1, 4, none⟩ = some (.string m') := Qb.out.cell 4
  have xt0 : w9.cell? ⟨w5.heap.size, 0, none⟩ = some (.int .i64 4) := Qt.out.cell 0
  have xt1 : w9.cell? ⟨w5.heap.size, 1, none⟩ = some (.int .i64 3) := Qt.out.cell 1
  have xt2 : w9.cell? ⟨w5.heap.size, 2, none⟩ = some (.int .u64 a') := Qt.out.cell 2
  have xt3 : w9.cell? ⟨w5.heap.size, 3, none⟩ = some (.int .u64 b') := Qt.out.cell 3
  have xt4 : w9.cell? ⟨w5.heap.size, 4, none⟩ = some (.int .u64 c') := Qt.out.cell 4
  have xt5 : w9.cell? ⟨w5.heap.size, 5, none⟩ = some (.string p') := Qt.out.cell 5
  go_wp2_with fail
  go_ret
  exact ⟨rfl, B.out⟩

set_option maxHeartbeats 800000 in
set_option maxRecDepth 100000 in
theorem isop_op5 (k : Nat) (a b c : Int) (p : ByteArray) (a' b' c' : Int) (p' m' : ByteArray) (pre : Bool) (w : World) (hp : p.size ≤ maxLen) (hp' : p'.size ≤ maxLen) (hm' : m'.size ≤ maxLen) (hv : Vars w) (f0 : decide (p.size ≤ 2147483647) = true) (f1 : fitB p' m' = true) (s0 : p.size ≤ 2147483647) (s1 : p'.size ≤ 2147483647 ∧ m'.size ≤ 2147483647) (hk : k ≤ 3) (f2 : goodT 5 k a b c p = true) (f3 : verOk ⟨0, 0, 0, p', m'⟩ = true) (r : Bool) (hr : ∀ g h, OpIs (opF 5) g h a' b' c' p' m' a b c p ByteArray.empty (opS 5) ByteArray.empty (k == 1) (decide (k < 3)) (k == 2) pre r) (hown : ∀ g h, OpIs (opF 4) g h a' b' c' p' m' a' b' c' p' ByteArray.empty (opS 4) ByteArray.empty (3 == 1) (decide (3 < 3)) (3 == 2) true true) :
    Calls Tryd.prog 14 #[.agg #[.int .i64 5, .int .i64 (k : Int), .int .u64 a, .int .u64 b, .int .u64 c, .string p], .agg (scells a' b' c' p' m'), .bool pre] w fun e w' => e = .returned (.bool true) ∧ Below w.heap.size w w' := by
  have B := hid (show Below w.heap.size w ((w.alloc (.cells #[.int .i64 5, .int .i64 (k : Int), .int .u64 a, .int .u64 b, .int .u64 c, .string p] 36)).alloc (.cells #[.int .u64 a', .int .u64 b', .int .u64 c', .string p', .string m'] 27)) by go_grown)
  have Z := hid (show w.heap.size + 2 ≤ ((w.alloc (.cells #[.int .i64 5, .int .i64 (k : Int), .int .u64 a, .int .u64 b, .int .u64 c, .string p] 36)).alloc (.cells #[.int .u64 a', .int .u64 b', .int .u64 c', .string p', .string m'] 27)).heap.size by simp only [World.size_alloc]; omega)
  obtain ⟨qa, qb⟩ := two_new w (#[.int .i64 5, .int .i64 (k : Int), .int .u64 a, .int .u64 b, .int .u64 c, .string p]) (#[.int .u64 a', .int .u64 b', .int .u64 c', .string p', .string m']) 36 27
  have Qa := hid qa
  have Qb := hid qb
  clear qa qb
  have HV := hid hv
  clear hv
  have HR := hid hr
  clear hr
  have HO := hid hown
  clear hown
  go_enter Tryd.func14, Tryd.ntmps14
  go_wp2_with fail
  go_at_call 25
  refine (fits13_any _ _ a b c p _ hp).mono ?_
  rintro e w1 ⟨rfl, hb⟩
  replace Qa := hid ((Qa.out).below hb)
  replace Qb := hid ((Qb.out).below hb)
  replace Z := hid (Nat.le_trans (Nat.le_trans Z.out (by first | exact Nat.le_refl _ | omega | (simp only [World.size_alloc, World.size_drew]; omega))) hb.size)
  replace B := hid (bt B.out hb)
  clear hb
  have xa0 : w1.cell? ⟨w.heap.size, 0, none⟩ = some (.int .i64 5) := Qa.out.cell 0
  have xa1 : w1.cell? ⟨w.heap.size, 1, none⟩ = some (.int .i64 (k : Int)) := Qa.out.cell 1
  have xa2 : w1.cell? ⟨w.heap.size, 2, none⟩ = some (.int .u64 a) := Qa.out.cell 2
  have xa3 : w1.cell? ⟨w.heap.size, 3, none⟩ = some (.int .u64 b) := Qa.out.cell 3
  have xa4 : w1.cell? ⟨w.heap.size, 4, none⟩ = some (.int .u64 c) := Qa.out.cell 4
  have xa5 : w1.cell? ⟨w.heap.size, 5, none⟩ = some (.string p) := Qa.out.cell 5
  have xb0 : w1.cell? ⟨w.heap.size + 1, 0, none⟩ = some (.int .u64 a') := Qb.out.cell 0
  have xb1 : w1.cell? ⟨w.heap.size + 1, 1, none⟩ = some (.int .u64 b') := Qb.out.cell 1
  have xb2 : w1.cell? ⟨w.heap.size + 1, 2, none⟩ = some (.int .u64 c') := Qb.out.cell 2
  have xb3 : w1.cell? ⟨w.heap.size + 1, 3, none⟩ = some (.string p') := Qb.out.cell 3
  have xb4 : w1.cell? ⟨w.heap.size + 1, 4, none⟩ = some (.string m') := Qb.out.cell 4
  go_wp2_with fail
  go_at_call 17
  refine (fitB_any a' b' c' p' m' _ hp' hm').mono ?_
  rintro e w2 ⟨rfl, hb⟩
  replace Qa := hid ((Qa.out).below hb)
  replace Qb := hid ((Qb.out).below hb)
  replace Z := hid (Nat.le_trans (Nat.le_trans Z.out (by first | exact Nat.le_refl _ | omega | (simp only [World.size_alloc, World.size_drew]; omega))) hb.size)
  replace B := hid (bt B.out hb)
  clear hb
  have xa0 : w2.cell? ⟨w.heap.size, 0, none⟩ = some (.int .i64 5) := Qa.out.cell 0
  have xa1 : w2.cell? ⟨w.heap.size, 1, none⟩ = some (.int .i64 (k : Int)) := Qa.out.cell 1
  have xa2 : w2.cell? ⟨w.heap.size, 2, none⟩ = some (.int .u64 a) := Qa.out.cell 2
  have xa3 : w2.cell? ⟨w.heap.size, 3, none⟩ = some (.int .u64 b) := Qa.out.cell 3
  have xa4 : w2.cell? ⟨w.heap.size, 4, none⟩ = some (.int .u64 c) := Qa.out.cell 4
  have xa5 : w2.cell? ⟨w.heap.size, 5, none⟩ = some (.string p) := Qa.out.cell 5
  have xb0 : w2.cell? ⟨w.heap.size + 1, 0, none⟩ = some (.int .u64 a') := Qb.out.cell 0
  have xb1 : w2.cell? ⟨w.heap.size + 1, 1, none⟩ = some (.int .u64 b') := Qb.out.cell 1
  have xb2 : w2.cell? ⟨w.heap.size + 1, 2, none⟩ = some (.int .u64 c') := Qb.out.cell 2
  have xb3 : w2.cell? ⟨w.heap.size + 1, 3, none⟩ = some (.string p') := Qb.out.cell 3
  have xb4 : w2.cell? ⟨w.heap.size + 1, 4, none⟩ = some (.string m') := Qb.out.cell 4
  go_wp2_with fail
  go_at_call 34
  refine (goodTerm_any _ _ a b c p _ s0).mono ?_
  rintro e w3 ⟨rfl, hb⟩
  replace Qa := hid ((Qa.out).below hb)
  replace Qb := hid ((Qb.out).below hb)
  replace Z := hid (Nat.le_trans (Nat.le_trans Z.out (by first | exact Nat.le_refl _ | omega | (simp only [World.size_alloc, World.size_drew]; omega))) hb.size)
  replace B := hid (bt B.out hb)
  clear hb
  have xa0 : w3.cell? ⟨w.heap.size, 0, none⟩ = some (.int .i64 5) := Qa.out.cell 0
  have xa1 : w3.cell? ⟨w.heap.size, 1, none⟩ = some (.int .i64 (k : Int)) := Qa.out.cell 1
  have xa2 : w3.cell? ⟨w.heap.size, 2, none⟩ = some (.int .u64 a) := Qa.out.cell 2
  have xa3 : w3.cell? ⟨w.heap.size, 3, none⟩ = some (.int .u64 b) := Qa.out.cell 3
  have xa4 : w3.cell? ⟨w.heap.size, 4, none⟩ = some (.int .u64 c) := Qa.out.cell 4
  have xa5 : w3.cell? ⟨w.heap.size, 5, none⟩ = some (.string p) := Qa.out.cell 5
  have xb0 : w3.cell? ⟨w.heap.size + 1, 0, none⟩ = some (.int .u64 a') := Qb.out.cell 0
  have xb1 : w3.cell? ⟨w.heap.size + 1, 1, none⟩ = some (.int .u64 b') := Qb.out.cell 1
  have xb2 : w3.cell? ⟨w.heap.size + 1, 2, none⟩ = some (.int .u64 c') := Qb.out.cell 2
  have xb3 : w3.cell? ⟨w.heap.size + 1, 3, none⟩ = some (.string p') := Qb.out.cell 3
  have xb4 : w3.cell? ⟨w.heap.size + 1, 4, none⟩ = some (.string m') := Qb.out.cell 4
  go_wp2_with fail
  go_at_call 19
  refine (svGood1 a' b' c' p' m' s1.1 s1.2 _ _ _ (by simp)).mono ?_
  rintro e w4 ⟨rfl, hb⟩
  replace Qa := hid (((Qa.out.alloc _)).below hb)
  replace Qb := hid (((Qb.out.alloc _)).below hb)
  replace Z := hid (Nat.le_trans (Nat.le_trans Z.out (by first | exact Nat.le_refl _ | omega | (simp only [World.size_alloc, World.size_drew]; omega))) hb.size)
  replace B := hid (bt (B.out.alloc (by have := B.out.size; first | omega | (simp only [World.size_alloc]; omega)) _) hb)
  clear hb
  have xa0 : w4.cell? ⟨w.heap.size, 0, none⟩ = some (.int .i64 5) := Qa.out.cell 0
  have xa1 : w4.cell? ⟨w.heap.size, 1, none⟩ = some (.int .i64 (k : Int)) := Qa.out.cell 1
  have xa2 : w4.cell? ⟨w.heap.size, 2, none⟩ = some (.int .u64 a) := Qa.out.cell 2
  have xa3 : w4.cell? ⟨w.heap.size, 3, none⟩ = some (.int .u64 b) := Qa.out.cell 3
  have xa4 : w4.cell? ⟨w.heap.size, 4, none⟩ = some (.int .u64 c) := Qa.out.cell 4
  have xa5 : w4.cell? ⟨w.heap.size, 5, none⟩ = some (.string p) := Qa.out.cell 5
  have xb0 : w4.cell? ⟨w.heap.size + 1, 0, none⟩ = some (.int .u64 a') := Qb.out.cell 0
  have xb1 : w4.cell? ⟨w.heap.size + 1, 1, none⟩ = some (.int .u64 b') := Qb.out.cell 1
  have xb2 : w4.cell? ⟨w.heap.size + 1, 2, none⟩ = some (.int .u64 c') := Qb.out.cell 2
  have xb3 : w4.cell? ⟨w.heap.size + 1, 3, none⟩ = some (.string p') := Qb.out.cell 3
  have xb4 : w4.cell? ⟨w.heap.size + 1, 4, none⟩ = some (.string m') := Qb.out.cell 4
  go_wp2_with fail
  go_at_call 36
  refine (stTerm_3 4 a' b' c' p' m' _).mono ?_
  rintro e w5 ⟨rfl, hb⟩
  replace Qa := hid ((Qa.out).below hb)
  replace Qb := hid ((Qb.out).below hb)
  replace Z := hid (Nat.le_trans (Nat.le_trans Z.out (by first | exact Nat.le_refl _ | omega | (simp only [World.size_alloc, World.size_drew]; omega))) hb.size)
  replace B := hid (bt B.out hb)
  clear hb
  have xa0 : w5.cell? ⟨w.heap.size, 0, none⟩ = some (.int .i64 5) := Qa.out.cell 0
  have xa1 : w5.cell? ⟨w.heap.size, 1, none⟩ = some (.int .i64 (k : Int)) := Qa.out.cell 1
  have xa2 : w5.cell? ⟨w.heap.size, 2, none⟩ = some (.int .u64 a) := Qa.out.cell 2
  have xa3 : w5.cell? ⟨w.heap.size, 3, none⟩ = some (.int .u64 b) := Qa.out.cell 3
  have xa4 : w5.cell? ⟨w.heap.size, 4, none⟩ = some (.int .u64 c) := Qa.out.cell 4
  have xa5 : w5.cell? ⟨w.heap.size, 5, none⟩ = some (.string p) := Qa.out.cell 5
  have xb0 : w5.cell? ⟨w.heap.size + 1, 0, none⟩ = some (.int .u64 a') := Qb.out.cell 0
  have xb1 : w5.cell? ⟨w.heap.size + 1, 1, none⟩ = some (.int .u64 b') := Qb.out.cell 1
  have xb2 : w5.cell? ⟨w.heap.size + 1, 2, none⟩ = some (.int .u64 c') := Qb.out.cell 2
  have xb3 : w5.cell? ⟨w.heap.size + 1, 3, none⟩ = some (.string p') := Qb.out.cell 3
  have xb4 : w5.cell? ⟨w.heap.size + 1, 4, none⟩ = some (.string m') := Qb.out.cell 4
  have hz0 : w.heap.size < w5.heap.size := by have := Z.out; omega
  have hz1 : w.heap.size + 1 < w5.heap.size := by have := Z.out; omega
  go_wp2_with fail
  go_at_call 50
  refine (mostHolds_at 5 k (by omega) hk _ _ rfl rfl a' b' c' p' m' a b c p pre _ _ (HV.out.below (B.out.alloc (by have := B.out.size; omega) _)) HR.out).mono ?_
  rintro e w6 ⟨rfl, hb⟩
  replace Qa := hid (((Qa.out.alloc _)).below hb)
  replace Qb := hid (((Qb.out.alloc _)).below hb)
  have Qt := hid (((Blk.new _ _ _)).below hb)
  replace Z := hid (Nat.le_trans (Nat.le_trans Z.out (by first | exact Nat.le_refl _ | omega | (simp only [World.size_alloc, World.size_drew]; omega))) hb.size)
  replace B := hid (bt (B.out.alloc (by have := B.out.size; first | omega | (simp only [World.size_alloc]; omega)) _) hb)
  clear hb
  have xa0 : w6.cell? ⟨w.heap.size, 0, none⟩ = some (.int .i64 5) := Qa.out.cell 0
  have xa1 : w6.cell? ⟨w.heap.size, 1, none⟩ = some (.int .i64 (k : Int)) := Qa.out.cell 1
  have xa2 : w6.cell? ⟨w.heap.size, 2, none⟩ = some (.int .u64 a) := Qa.out.cell 2
  have xa3 : w6.cell? ⟨w.heap.size, 3, none⟩ = some (.int .u64 b) := Qa.out.cell 3
  have xa4 : w6.cell? ⟨w.heap.size, 4, none⟩ = some (.int .u64 c) := Qa.out.cell 4
  have xa5 : w6.cell? ⟨w.heap.size, 5, none⟩ = some (.string p) := Qa.out.cell 5
  have xb0 : w6.cell? ⟨w.heap.size + 1, 0, none⟩ = some (.int .u64 a') := Qb.out.cell 0
  have xb1 : w6.cell? ⟨w.heap.size + 1, 1, none⟩ = some (.int .u64 b') := Qb.out.cell 1
  have xb2 : w6.cell? ⟨w.heap.size + 1, 2, none⟩ = some (.int .u64 c') := Qb.out.cell 2
  have xb3 : w6.cell? ⟨w.heap.size + 1, 3, none⟩ = some (.string p') := Qb.out.cell 3
  have xb4 : w6.cell? ⟨w.heap.size + 1, 4, none⟩ = some (.string m') := Qb.out.cell 4
  have xt0 : w6.cell? ⟨w5.heap.size, 0, none⟩ = some (.int .i64 4) := Qt.out.cell 0
  have xt1 : w6.cell? ⟨w5.heap.size, 1, none⟩ = some (.int .i64 3) := Qt.out.cell 1
  have xt2 : w6.cell? ⟨w5.heap.size, 2, none⟩ = some (.int .u64 a') := Qt.out.cell 2
  have xt3 : w6.cell? ⟨w5.heap.size, 3, none⟩ = some (.int .u64 b') := Qt.out.cell 3
  have xt4 : w6.cell? ⟨w5.heap.size, 4, none⟩ = some (.int .u64 c') := Qt.out.cell 4
  have xt5 : w6.cell? ⟨w5.heap.size, 5, none⟩ = some (.string p') := Qt.out.cell 5
  go_wp2_with fail
  go_at_call 35
  refine (termHolds_at 5 k (by omega) hk _ _ rfl rfl a' b' c' p' m' a b c p pre _ _ (HV.out.below B.out) HR.out).mono ?_
  rintro e w7 ⟨rfl, hb⟩
  replace Qa := hid ((Qa.out).below hb)
  replace Qb := hid ((Qb.out).below hb)
  replace Qt := hid ((Qt.out).below hb)
  replace Z := hid (Nat.le_trans (Nat.le_trans Z.out (by first | exact Nat.le_refl _ | omega | (simp only [World.size_alloc, World.size_drew]; omega))) hb.size)
  replace B := hid (bt B.out hb)
  clear hb
  have xa0 : w7.cell? ⟨w.heap.size, 0, none⟩ = some (.int .i64 5) := Qa.out.cell 0
  have xa1 : w7.cell? ⟨w.heap.size, 1, none⟩ = some (.int .i64 (k : Int)) := Qa.out.cell 1
  have xa2 : w7.cell? ⟨w.heap.size, 2, none⟩ = some (.int .u64 a) := Qa.out.cell 2
  have xa3 : w7.cell? ⟨w.heap.size, 3, none⟩ = some (.int .u64 b) := Qa.out.cell 3
  have xa4 : w7.cell? ⟨w.heap.size, 4, none⟩ = some (.int .u64 c) := Qa.out.cell 4
  have xa5 : w7.cell? ⟨w.heap.size, 5, none⟩ = some (.string p) := Qa.out.cell 5
  have xb0 : w7.cell? ⟨w.heap.size + 1, 0, none⟩ = some (.int .u64 a') := Qb.out.cell 0
  have xb1 : w7.cell? ⟨w.heap.size + 1, 1, none⟩ = some (.int .u64 b') := Qb.out.cell 1
  have xb2 : w7.cell? ⟨w.heap.size + 1, 2, none⟩ = some (.int .u64 c') := Qb.out.cell 2
  have xb3 : w7.cell? ⟨w.heap.size + 1, 3, none⟩ = some (.string p') := Qb.out.cell 3
  have xb4 : w7.cell? ⟨w.heap.size + 1, 4, none⟩ = some (.string m') := Qb.out.cell 4
  have xt0 : w7.cell? ⟨w5.heap.size, 0, none⟩ = some (.int .i64 4) := Qt.out.cell 0
  have xt1 : w7.cell? ⟨w5.heap.size, 1, none⟩ = some (.int .i64 3) := Qt.out.cell 1
  have xt2 : w7.cell? ⟨w5.heap.size, 2, none⟩ = some (.int .u64 a') := Qt.out.cell 2
  have xt3 : w7.cell? ⟨w5.heap.size, 3, none⟩ = some (.int .u64 b') := Qt.out.cell 3
  have xt4 : w7.cell? ⟨w5.heap.size, 4, none⟩ = some (.int .u64 c') := Qt.out.cell 4
  have xt5 : w7.cell? ⟨w5.heap.size, 5, none⟩ = some (.string p') := Qt.out.cell 5
  go_wp2_with fail
  go_at_call 35
  refine (termHolds_at 4 3 (by omega) (by omega) _ _ rfl rfl a' b' c' p' m' a' b' c' p' true true _ (HV.out.below B.out) HO.out).mono ?_
  rintro e w8 ⟨rfl, hb⟩
  replace Qa := hid ((Qa.out).below hb)
  replace Qb := hid ((Qb.out).below hb)
  replace Qt := hid ((Qt.out).below hb)
  replace Z := hid (Nat.le_trans (Nat.le_trans Z.out (by first | exact Nat.le_refl _ | omega | (simp only [World.size_alloc, World.size_drew]; omega))) hb.size)
  replace B := hid (bt B.out hb)
  clear hb
  have xa0 : w8.cell? ⟨w.heap.size, 0, none⟩ = some (.int .i64 5) := Qa.out.cell 0
  have xa1 : w8.cell? ⟨w.heap.size, 1, none⟩ = some (.int .i64 (k : Int)) := Qa.out.cell 1
  have xa2 : w8.cell? ⟨w.heap.size, 2, none⟩ = some (.int .u64 a) := Qa.out.cell 2
  have xa3 : w8.cell? ⟨w.heap.size, 3, none⟩ = some (.int .u64 b) := Qa.out.cell 3
  have xa4 : w8.cell? ⟨w.heap.size, 4, none⟩ = some (.int .u64 c) := Qa.out.cell 4
  have xa5 : w8.cell? ⟨w.heap.size, 5, none⟩ = some (.string p) := Qa.out.cell 5
  have xb0 : w8.cell? ⟨w.heap.size + 1, 0, none⟩ = some (.int .u64 a') := Qb.out.cell 0
  have xb1 : w8.cell? ⟨w.heap.size + 1, 1, none⟩ = some (.int .u64 b') := Qb.out.cell 1
  have xb2 : w8.cell? ⟨w.heap.size + 1, 2, none⟩ = some (.int .u64 c') := Qb.out.cell 2
  have xb3 : w8.cell? ⟨w.heap.size + 1, 3, none⟩ = some (.string p') := Qb.out.cell 3
  have xb4 : w8.cell? ⟨w.heap.size + 1, 4, none⟩ = some (.string m') := Qb.out.cell 4
  have xt0 : w8.cell? ⟨w5.heap.size, 0, none⟩ = some (.int .i64 4) := Qt.out.cell 0
  have xt1 : w8.cell? ⟨w5.heap.size, 1, none⟩ = some (.int .i64 3) := Qt.out.cell 1
  have xt2 : w8.cell? ⟨w5.heap.size, 2, none⟩ = some (.int .u64 a') := Qt.out.cell 2
  have xt3 : w8.cell? ⟨w5.heap.size, 3, none⟩ = some (.int .u64 b') := Qt.out.cell 3
  have xt4 : w8.cell? ⟨w5.heap.size, 4, none⟩ = some (.int .u64 c') := Qt.out.cell 4
  have xt5 : w8.cell? ⟨w5.heap.size, 5, none⟩ = some (.string p') := Qt.out.cell 5
  go_wp2_with fail
  go_at_call 30
  refine (leastHolds_at 4 3 (by omega) (by omega) _ _ rfl rfl a' b' c' p' m' a' b' c' p' true true _ (HV.out.below B.out) HO.out).mono ?_
  rintro e w9 ⟨rfl, hb⟩
  replace Qa := hid ((Qa.out).below hb)
  replace Qb := hid ((Qb.out).below hb)
  replace Qt := hid ((Qt.out).below hb)
  replace Z := hid (Nat.le_trans (Nat.le_trans Z.out (by first | exact Nat.le_refl _ | omega | (simp only [World.size_alloc, World.size_drew]; omega))) hb.size)
  replace B := hid (bt B.out hb)
  clear hb
  have xa0 : w9.cell? ⟨w.heap.size, 0, none⟩ = some (.int .i64 5) := Qa.out.cell 0
  have xa1 : w9.cell? ⟨w.heap.size, 1, none⟩ = some (.int .i64 (k : Int)) := Qa.out.cell 1
  have xa2 : w9.cell? ⟨w.heap.size, 2, none⟩ = some (.int .u64 a) := Qa.out.cell 2
  have xa3 : w9.cell? ⟨w.heap.size, 3, none⟩ = some (.int .u64 b) := Qa.out.cell 3
  have xa4 : w9.cell? ⟨w.heap.size, 4, none⟩ = some (.int .u64 c) := Qa.out.cell 4
  have xa5 : w9.cell? ⟨w.heap.size, 5, none⟩ = some (.string p) := Qa.out.cell 5
  have xb0 : w9.cell? ⟨w.heap.size + 1, 0, none⟩ = some (.int .u64 a') := Qb.out.cell 0
  have xb1 : w9.cell? ⟨w.heap.size + 1, 1, none⟩ = some (.int .u64 b') := Qb.out.cell 1
  have xb2 : w9.cell? ⟨w.heap.size + 1, 2, none⟩ = some (.int .u64 c') := Qb.out.cell 2
  have xb3 : w9.cell? ⟨w.heap.size + 1, 3, none⟩ = some (.string p') := Qb.out.cell 3
  have xb4 : w9.cell? ⟨w.heap.size + 1, 4, none⟩ = some (.string m') := Qb.out.cell 4
  have xt0 : w9.cell? ⟨w5.heap.size, 0, none⟩ = some (.int .i64 4) := Qt.out.cell 0
  have xt1 : w9.cell? ⟨w5.heap.size, 1, none⟩ = some (.int .i64 3) := Qt.out.cell 1
  have xt2 : w9.cell? ⟨w5.heap.size, 2, none⟩ = some (.int .u64 a') := Qt.out.cell 2
  have xt3 : w9.cell? ⟨w5.heap.size, 3, none⟩ = some (.int .u64 b') := Qt.out.cell 3
  have xt4 : w9.cell? ⟨w5.heap.size, 4, none⟩ = some (.int .u64 c') := Qt.out.cell 4
  have xt5 : w9.cell? ⟨w5.heap.size, 5, none⟩ = some (.string p') := Qt.out.cell 5
  go_wp2_with fail
  go_ret
  exact ⟨rfl, B.out⟩

set_option maxHeartbeats 800000 in
set_option maxRecDepth 100000 in
theorem isop_op6 (k : Nat) (a b c : Int) (p : ByteArray) (a' b' c' : Int) (p' m' : ByteArray) (pre : Bool) (w : World) (hp : p.size ≤ maxLen) (hp' : p'.size ≤ maxLen) (hm' : m'.size ≤ maxLen) (hv : Vars w) (f0 : decide (p.size ≤ 2147483647) = true) (f1 : fitB p' m' = true) (s0 : p.size ≤ 2147483647) (s1 : p'.size ≤ 2147483647 ∧ m'.size ≤ 2147483647) (hk : k ≤ 3) (f2 : goodT 6 k a b c p = true) (f3 : verOk ⟨0, 0, 0, p', m'⟩ = true) (r : Bool) (hr : ∀ g h, OpIs (opF 6) g h a' b' c' p' m' a b c p ByteArray.empty (opS 6) ByteArray.empty (k == 1) (decide (k < 3)) (k == 2) pre r) (hown : ∀ g h, OpIs (opF 4) g h a' b' c' p' m' a' b' c' p' ByteArray.empty (opS 4) ByteArray.empty (3 == 1) (decide (3 < 3)) (3 == 2) true true) :
    Calls Tryd.prog 14 #[.agg #[.int .i64 6, .int .i64 (k : Int), .int .u64 a, .int .u64 b, .int .u64 c, .string p], .agg (scells a' b' c' p' m'), .bool pre] w fun e w' => e = .returned (.bool true) ∧ Below w.heap.size w w' := by
  have B := hid (show Below w.heap.size w ((w.alloc (.cells #[.int .i64 6, .int .i64 (k : Int), .int .u64 a, .int .u64 b, .int .u64 c, .string p] 36)).alloc (.cells #[.int .u64 a', .int .u64 b', .int .u64 c', .string p', .string m'] 27)) by go_grown)
  have Z := hid (show w.heap.size + 2 ≤ ((w.alloc (.cells #[.int .i64 6, .int .i64 (k : Int), .int .u64 a, .int .u64 b, .int .u64 c, .string p] 36)).alloc (.cells #[.int .u64 a', .int .u64 b', .int .u64 c', .string p', .string m'] 27)).heap.size by simp only [World.size_alloc]; omega)
  obtain ⟨qa, qb⟩ := two_new w (#[.int .i64 6, .int .i64 (k : Int), .int .u64 a, .int .u64 b, .int .u64 c, .string p]) (#[.int .u64 a', .int .u64 b', .int .u64 c', .string p', .string m']) 36 27
  have Qa := hid qa
  have Qb := hid qb
  clear qa qb
  have HV := hid hv
  clear hv
  have HR := hid hr
  clear hr
  have HO := hid hown
  clear hown
  go_enter Tryd.func14, Tryd.ntmps14
  go_wp2_with fail
  go_at_call 25
  refine (fits13_any _ _ a b c p _ hp).mono ?_
  rintro e w1 ⟨rfl, hb⟩
  replace Qa := hid ((Qa.out).below hb)
  replace Qb := hid ((Qb.out).below hb)
  replace Z := hid (Nat.le_trans (Nat.le_trans Z.out (by first | exact Nat.le_refl _ | omega | (simp only [World.size_alloc, World.size_drew]; omega))) hb.size)
  replace B := hid (bt B.out hb)
  clear hb
  have xa0 : w1.cell? ⟨w.heap.size, 0, none⟩ = some (.int .i64 6) := Qa.out.cell 0
  have xa1 : w1.cell? ⟨w.heap.size, 1, none⟩ = some (.int .i64 (k : Int)) := Qa.out.cell 1
  have xa2 : w1.cell? ⟨w.heap.size, 2, none⟩ = some (.int .u64 a) := Qa.out.cell 2
  have xa3 : w1.cell? ⟨w.heap.size, 3, none⟩ = some (.int .u64 b) := Qa.out.cell 3
  have xa4 : w1.cell? ⟨w.heap.size, 4, none⟩ = some (.int .u64 c) := Qa.out.cell 4
  have xa5 : w1.cell? ⟨w.heap.size, 5, none⟩ = some (.string p) := Qa.out.cell 5
  have xb0 : w1.cell? ⟨w.heap.size + 1, 0, none⟩ = some (.int .u64 a') := Qb.out.cell 0
  have xb1 : w1.cell? ⟨w.heap.size + 1, 1, none⟩ = some (.int .u64 b') := Qb.out.cell 1
  have xb2 : w1.cell? ⟨w.heap.size + 1, 2, none⟩ = some (.int .u64 c') := Qb.out.cell 2
  have xb3 : w1.cell? ⟨w.heap.size + 1, 3, none⟩ = some (.string p') := Qb.out.cell 3
  have xb4 : w1.cell? ⟨w.heap.size + 1, 4, none⟩ = some (.string m') := Qb.out.cell 4
  go_wp2_with fail
  go_at_call 17
  refine (fitB_any a' b' c' p' m' _ hp' hm').mono ?_
  rintro e w2 ⟨rfl, hb⟩
  replace Qa := hid ((Qa.out).below hb)
  replace Qb := hid ((Qb.out).below hb)
  replace Z := hid (Nat.le_trans (Nat.le_trans Z.out (by first | exact Nat.le_refl _ | omega | (simp only [World.size_alloc, World.size_drew]; omega))) hb.size)
  replace B := hid (bt B.out hb)
  clear hb
  have xa0 : w2.cell? ⟨w.heap.size, 0, none⟩ = some (.int .i64 6) := Qa.out.cell 0
  have xa1 : w2.cell? ⟨w.heap.size, 1, none⟩ = some (.int .i64 (k : Int)) := Qa.out.cell 1
  have xa2 : w2.cell? ⟨w.heap.size, 2, none⟩ = some (.int .u64 a) := Qa.out.cell 2
  have xa3 : w2.cell? ⟨w.heap.size, 3, none⟩ = some (.int .u64 b) := Qa.out.cell 3
  have xa4 : w2.cell? ⟨w.heap.size, 4, none⟩ = some (.int .u64 c) := Qa.out.cell 4
  have xa5 : w2.cell? ⟨w.heap.size, 5, none⟩ = some (.string p) := Qa.out.cell 5
  have xb0 : w2.cell? ⟨w.heap.size + 1, 0, none⟩ = some (.int .u64 a') := Qb.out.cell 0
  have xb1 : w2.cell? ⟨w.heap.size + 1, 1, none⟩ = some (.int .u64 b') := Qb.out.cell 1
  have xb2 : w2.cell? ⟨w.heap.size + 1, 2, none⟩ = some (.int .u64 c') := Qb.out.cell 2
  have xb3 : w2.cell? ⟨w.heap.size + 1, 3, none⟩ = some (.string p') := Qb.out.cell 3
  have xb4 : w2.cell? ⟨w.heap.size + 1, 4, none⟩ = some (.string m') := Qb.out.cell 4
  go_wp2_with fail
  go_at_call 34
  refine (goodTerm_any _ _ a b c p _ s0).mono ?_
  rintro e w3 ⟨rfl, hb⟩
  replace Qa := hid ((Qa.out).below hb)
  replace Qb := hid ((Qb.out).below hb)
  replace Z := hid (Nat.le_trans (Nat.le_trans Z.out (by first | exact Nat.le_refl _ | omega | (simp only [World.size_alloc, World.size_drew]; omega))) hb.size)
  replace B := hid (bt B.out hb)
  clear hb
  have xa0 : w3.cell? ⟨w.heap.size, 0, none⟩ = some (.int .i64 6) := Qa.out.cell 0
  have xa1 : w3.cell? ⟨w.heap.size, 1, none⟩ = some (.int .i64 (k : Int)) := Qa.out.cell 1
  have xa2 : w3.cell? ⟨w.heap.size, 2, none⟩ = some (.int .u64 a) := Qa.out.cell 2
  have xa3 : w3.cell? ⟨w.heap.size, 3, none⟩ = some (.int .u64 b) := Qa.out.cell 3
  have xa4 : w3.cell? ⟨w.heap.size, 4, none⟩ = some (.int .u64 c) := Qa.out.cell 4
  have xa5 : w3.cell? ⟨w.heap.size, 5, none⟩ = some (.string p) := Qa.out.cell 5
  have xb0 : w3.cell? ⟨w.heap.size + 1, 0, none⟩ = some (.int .u64 a') := Qb.out.cell 0
  have xb1 : w3.cell? ⟨w.heap.size + 1, 1, none⟩ = some (.int .u64 b') := Qb.out.cell 1
  have xb2 : w3.cell? ⟨w.heap.size + 1, 2, none⟩ = some (.int .u64 c') := Qb.out.cell 2
  have xb3 : w3.cell? ⟨w.heap.size + 1, 3, none⟩ = some (.string p') := Qb.out.cell 3
  have xb4 : w3.cell? ⟨w.heap.size + 1, 4, none⟩ = some (.string m') := Qb.out.cell 4
  go_wp2_with fail
  go_at_call 19
  refine (svGood1 a' b' c' p' m' s1.1 s1.2 _ _ _ (by simp)).mono ?_
  rintro e w4 ⟨rfl, hb⟩
  replace Qa := hid (((Qa.out.alloc _)).below hb)
  replace Qb := hid (((Qb.out.alloc _)).below hb)
  replace Z := hid (Nat.le_trans (Nat.le_trans Z.out (by first | exact Nat.le_refl _ | omega | (simp only [World.size_alloc, World.size_drew]; omega))) hb.size)
  replace B := hid (bt (B.out.alloc (by have := B.out.size; first | omega | (simp only [World.size_alloc]; omega)) _) hb)
  clear hb
  have xa0 : w4.cell? ⟨w.heap.size, 0, none⟩ = some (.int .i64 6) := Qa.out.cell 0
  have xa1 : w4.cell? ⟨w.heap.size, 1, none⟩ = some (.int .i64 (k : Int)) := Qa.out.cell 1
  have xa2 : w4.cell? ⟨w.heap.size, 2, none⟩ = some (.int .u64 a) := Qa.out.cell 2
  have xa3 : w4.cell? ⟨w.heap.size, 3, none⟩ = some (.int .u64 b) := Qa.out.cell 3
  have xa4 : w4.cell? ⟨w.heap.size, 4, none⟩ = some (.int .u64 c) := Qa.out.cell 4
  have xa5 : w4.cell? ⟨w.heap.size, 5, none⟩ = some (.string p) := Qa.out.cell 5
  have xb0 : w4.cell? ⟨w.heap.size + 1, 0, none⟩ = some (.int .u64 a') := Qb.out.cell 0
  have xb1 : w4.cell? ⟨w.heap.size + 1, 1, none⟩ = some (.int .u64 b') := Qb.out.cell 1
  have xb2 : w4.cell? ⟨w.heap.size + 1, 2, none⟩ = some (.int .u64 c') := Qb.out.cell 2
  have xb3 : w4.cell? ⟨w.heap.size + 1, 3, none⟩ = some (.string p') := Qb.out.cell 3
  have xb4 : w4.cell? ⟨w.heap.size + 1, 4, none⟩ = some (.string m') := Qb.out.cell 4
  go_wp2_with fail
  go_at_call 36
  refine (stTerm_3 4 a' b' c' p' m' _).mono ?_
  rintro e w5 ⟨rfl, hb⟩
  replace Qa := hid ((Qa.out).below hb)
  replace Qb := hid ((Qb.out).below hb)
  replace Z := hid (Nat.le_trans (Nat.le_trans Z.out (by first | exact Nat.le_refl _ | omega | (simp only [World.size_alloc, World.size_drew]; omega))) hb.size)
  replace B := hid (bt B.out hb)
  clear hb
  have xa0 : w5.cell? ⟨w.heap.size, 0, none⟩ = some (.int .i64 6) := Qa.out.cell 0
  have xa1 : w5.cell? ⟨w.heap.size, 1, none⟩ = some (.int .i64 (k : Int)) := Qa.out.cell 1
  have xa2 : w5.cell? ⟨w.heap.size, 2, none⟩ = some (.int .u64 a) := Qa.out.cell 2
  have xa3 : w5.cell? ⟨w.heap.size, 3, none⟩ = some (.int .u64 b) := Qa.out.cell 3
  have xa4 : w5.cell? ⟨w.heap.size, 4, none⟩ = some (.int .u64 c) := Qa.out.cell 4
  have xa5 : w5.cell? ⟨w.heap.size, 5, none⟩ = some (.string p) := Qa.out.cell 5
  have xb0 : w5.cell? ⟨w.heap.size + 1, 0, none⟩ = some (.int .u64 a') := Qb.out.cell 0
  have xb1 : w5.cell? ⟨w.heap.size + 1, 1, none⟩ = some (.int .u64 b') := Qb.out.cell 1
  have xb2 : w5.cell? ⟨w.heap.size + 1, 2, none⟩ = some (.int .u64 c') := Qb.out.cell 2
  have xb3 : w5.cell? ⟨w.heap.size + 1, 3, none⟩ = some (.string p') := Qb.out.cell 3
  have xb4 : w5.cell? ⟨w.heap.size + 1, 4, none⟩ = some (.string m') := Qb.out.cell 4
  have hz0 : w.heap.size < w5.heap.size := by have := Z.out; omega
  have hz1 : w.heap.size + 1 < w5.heap.size := by have := Z.out; omega
  go_wp2_with fail
  go_at_call 51
  refine (tildeHolds_at 6 k (by omega) hk _ _ rfl rfl a' b' c' p' m' a b c p pre _ _ (HV.out.below (B.out.alloc (by have := B.out.size; omega) _)) HR.out).mono ?_
  rintro e w6 ⟨rfl, hb⟩
  replace Qa := hid (((Qa.out.alloc _)).below hb)
  replace Qb := hid (((Qb.out.alloc _)).below hb)
  have Qt := hid (((Blk.new _ _ _)).below hb)
  replace Z := hid (Nat.le_trans (Nat.le_trans Z.out (by first | exact Nat.le_refl _ | omega | (simp only [World.size_alloc, World.size_drew]; omega))) hb.size)
  replace B := hid (bt (B.out.alloc (by have := B.out.size; first | omega | (simp only [World.size_alloc]; omega)) _) hb)
  clear hb
  have xa0 : w6.cell? ⟨w.heap.size, 0, none⟩ = some (.int .i64 6) := Qa.out.cell 0
  have xa1 : w6.cell? ⟨w.heap.size, 1, none⟩ = some (.int .i64 (k : Int)) := Qa.out.cell 1
  have xa2 : w6.cell? ⟨w.heap.size, 2, none⟩ = some (.int .u64 a) := Qa.out.cell 2
  have xa3 : w6.cell? ⟨w.heap.size, 3, none⟩ = some (.int .u64 b) := Qa.out.cell 3
  have xa4 : w6.cell? ⟨w.heap.size, 4, none⟩ = some (.int .u64 c) := Qa.out.cell 4
  have xa5 : w6.cell? ⟨w.heap.size, 5, none⟩ = some (.string p) := Qa.out.cell 5
  have xb0 : w6.cell? ⟨w.heap.size + 1, 0, none⟩ = some (.int .u64 a') := Qb.out.cell 0
  have xb1 : w6.cell? ⟨w.heap.size + 1, 1, none⟩ = some (.int .u64 b') := Qb.out.cell 1
  have xb2 : w6.cell? ⟨w.heap.size + 1, 2, none⟩ = some (.int .u64 c') := Qb.out.cell 2
  have xb3 : w6.cell? ⟨w.heap.size + 1, 3, none⟩ = some (.string p') := Qb.out.cell 3
  have xb4 : w6.cell? ⟨w.heap.size + 1, 4, none⟩ = some (.string m') := Qb.out.cell 4
  have xt0 : w6.cell? ⟨w5.heap.size, 0, none⟩ = some (.int .i64 4) := Qt.out.cell 0
  have xt1 : w6.cell? ⟨w5.heap.size, 1, none⟩ = some (.int .i64 3) := Qt.out.cell 1
  have xt2 : w6.cell? ⟨w5.heap.size, 2, none⟩ = some (.int .u64 a') := Qt.out.cell 2
  have xt3 : w6.cell? ⟨w5.heap.size, 3, none⟩ = some (.int .u64 b') := Qt.out.cell 3
  have xt4 : w6.cell? ⟨w5.heap.size, 4, none⟩ = some (.int .u64 c') := Qt.out.cell 4
  have xt5 : w6.cell? ⟨w5.heap.size, 5, none⟩ = some (.string p') := Qt.out.cell 5
  go_wp2_with fail
  go_at_call 35
  refine (termHolds_at 6 k (by omega) hk _ _ rfl rfl a' b' c' p' m' a b c p pre _ _ (HV.out.below B.out) HR.out).mono ?_
  rintro e w7 ⟨rfl, hb⟩
  replace Qa := hid ((Qa.out).below hb)
  replace Qb := hid ((Qb.out).below hb)
  replace Qt := hid ((Qt.out).below hb)
  replace Z := hid (Nat.le_trans (Nat.le_trans Z.out (by first | exact Nat.le_refl _ | omega | (simp only [World.size_alloc, World.size_drew]; omega))) hb.size)
  replace B := hid (bt B.out hb)
  clear hb
  have xa0 : w7.cell? ⟨w.heap.size, 0, none⟩ = some (.int .i64 6) := Qa.out.cell 0
  have xa1 : w7.cell? ⟨w.heap.size, 1, none⟩ = some (.int .i64 (k : Int)) := Qa.out.cell 1
  have xa2 : w7.cell? ⟨w.heap.size, 2, none⟩ = some (.int .u64 a) := Qa.out.cell 2
  have xa3 : w7.cell? ⟨w.heap.size, 3, none⟩ = some (.int .u64 b) := Qa.out.cell 3
  have xa4 : w7.cell? ⟨w.heap.size, 4, none⟩ = some (.int .u64 c) := Qa.out.cell 4
  have xa5 : w7.cell? ⟨w.heap.size, 5, none⟩ = some (.string p) := Qa.out.cell 5
  have xb0 : w7.cell? ⟨w.heap.size + 1, 0, none⟩ = some (.int .u64 a') := Qb.out.cell 0
  have xb1 : w7.cell? ⟨w.heap.size + 1, 1, none⟩ = some (.int .u64 b') := Qb.out.cell 1
  have xb2 : w7.cell? ⟨w.heap.size + 1, 2, none⟩ = some (.int .u64 c') := Qb.out.cell 2
  have xb3 : w7.cell? ⟨w.heap.size + 1, 3, none⟩ = some (.string p') := Qb.out.cell 3
  have xb4 : w7.cell? ⟨w.heap.size + 1, 4, none⟩ = some (.string m') := Qb.out.cell 4
  have xt0 : w7.cell? ⟨w5.heap.size, 0, none⟩ = some (.int .i64 4) := Qt.out.cell 0
  have xt1 : w7.cell? ⟨w5.heap.size, 1, none⟩ = some (.int .i64 3) := Qt.out.cell 1
  have xt2 : w7.cell? ⟨w5.heap.size, 2, none⟩ = some (.int .u64 a') := Qt.out.cell 2
  have xt3 : w7.cell? ⟨w5.heap.size, 3, none⟩ = some (.int .u64 b') := Qt.out.cell 3
  have xt4 : w7.cell? ⟨w5.heap.size, 4, none⟩ = some (.int .u64 c') := Qt.out.cell 4
  have xt5 : w7.cell? ⟨w5.heap.size, 5, none⟩ = some (.string p') := Qt.out.cell 5
  go_wp2_with fail
  go_at_call 35
  refine (termHolds_at 4 3 (by omega) (by omega) _ _ rfl rfl a' b' c' p' m' a' b' c' p' true true _ (HV.out.below B.out) HO.out).mono ?_
  rintro e w8 ⟨rfl, hb⟩
  replace Qa := hid ((Qa.out).below hb)
  replace Qb := hid ((Qb.out).below hb)
  replace Qt := hid ((Qt.out).below hb)
  replace Z := hid (Nat.le_trans (Nat.le_trans Z.out (by first | exact Nat.le_refl _ | omega | (simp only [World.size_alloc, World.size_drew]; omega))) hb.size)
  replace B := hid (bt B.out hb)
  clear hb
  have xa0 : w8.cell? ⟨w.heap.size, 0, none⟩ = some (.int .i64 6) := Qa.out.cell 0
  have xa1 : w8.cell? ⟨w.heap.size, 1, none⟩ = some (.int .i64 (k : Int)) := Qa.out.cell 1
  have xa2 : w8.cell? ⟨w.heap.size, 2, none⟩ = some (.int .u64 a) := Qa.out.cell 2
  have xa3 : w8.cell? ⟨w.heap.size, 3, none⟩ = some (.int .u64 b) := Qa.out.cell 3
  have xa4 : w8.cell? ⟨w.heap.size, 4, none⟩ = some (.int .u64 c) := Qa.out.cell 4
  have xa5 : w8.cell? ⟨w.heap.size, 5, none⟩ = some (.string p) := Qa.out.cell 5
  have xb0 : w8.cell? ⟨w.heap.size + 1, 0, none⟩ = some (.int .u64 a') := Qb.out.cell 0
  have xb1 : w8.cell? ⟨w.heap.size + 1, 1, none⟩ = some (.int .u64 b') := Qb.out.cell 1
  have xb2 : w8.cell? ⟨w.heap.size + 1, 2, none⟩ = some (.int .u64 c') := Qb.out.cell 2
  have xb3 : w8.cell? ⟨w.heap.size + 1, 3, none⟩ = some (.string p') := Qb.out.cell 3
  have xb4 : w8.cell? ⟨w.heap.size + 1, 4, none⟩ = some (.string m') := Qb.out.cell 4
  have xt0 : w8.cell? ⟨w5.heap.size, 0, none⟩ = some (.int .i64 4) := Qt.out.cell 0
  have xt1 : w8.cell? ⟨w5.heap.size, 1, none⟩ = some (.int .i64 3) := Qt.out.cell 1
  have xt2 : w8.cell? ⟨w5.heap.size, 2, none⟩ = some (.int .u64 a') := Qt.out.cell 2
  have xt3 : w8.cell? ⟨w5.heap.size, 3, none⟩ = some (.int .u64 b') := Qt.out.cell 3
  have xt4 : w8.cell? ⟨w5.heap.size, 4, none⟩ = some (.int .u64 c') := Qt.out.cell 4
  have xt5 : w8.cell? ⟨w5.heap.size, 5, none⟩ = some (.string p') := Qt.out.cell 5
  go_wp2_with fail
  go_at_call 30
  refine (leastHolds_at 4 3 (by omega) (by omega) _ _ rfl rfl a' b' c' p' m' a' b' c' p' true true _ (HV.out.below B.out) HO.out).mono ?_
  rintro e w9 ⟨rfl, hb⟩
  replace Qa := hid ((Qa.out).below hb)
  replace Qb := hid ((Qb.out).below hb)
  replace Qt := hid ((Qt.out).below hb)
  replace Z := hid (Nat.le_trans (Nat.le_trans Z.out (by first | exact Nat.le_refl _ | omega | (simp only [World.size_alloc, World.size_drew]; omega))) hb.size)
  replace B := hid (bt B.out hb)
  clear hb
  have xa0 : w9.cell? ⟨w.heap.size, 0, none⟩ = some (.int .i64 6) := Qa.out.cell 0
  have xa1 : w9.cell? ⟨w.heap.size, 1, none⟩ = some (.int .i64 (k : Int)) := Qa.out.cell 1
  have xa2 : w9.cell? ⟨w.heap.size, 2, none⟩ = some (.int .u64 a) := Qa.out.cell 2
  have xa3 : w9.cell? ⟨w.heap.size, 3, none⟩ = some (.int .u64 b) := Qa.out.cell 3
  have xa4 : w9.cell? ⟨w.heap.size, 4, none⟩ = some (.int .u64 c) := Qa.out.cell 4
  have xa5 : w9.cell? ⟨w.heap.size, 5, none⟩ = some (.string p) := Qa.out.cell 5
  have xb0 : w9.cell? ⟨w.heap.size + 1, 0, none⟩ = some (.int .u64 a') := Qb.out.cell 0
  have xb1 : w9.cell? ⟨w.heap.size + 1, 1, none⟩ = some (.int .u64 b') := Qb.out.cell 1
  have xb2 : w9.cell? ⟨w.heap.size + 1, 2, none⟩ = some (.int .u64 c') := Qb.out.cell 2
  have xb3 : w9.cell? ⟨w.heap.size + 1, 3, none⟩ = some (.string p') := Qb.out.cell 3
  have xb4 : w9.cell? ⟨w.heap.size + 1, 4, none⟩ = some (.string m') := Qb.out.cell 4
  have xt0 : w9.cell? ⟨w5.heap.size, 0, none⟩ = some (.int .i64 4) := Qt.out.cell 0
  have xt1 : w9.cell? ⟨w5.heap.size, 1, none⟩ = some (.int .i64 3) := Qt.out.cell 1
  have xt2 : w9.cell? ⟨w5.heap.size, 2, none⟩ = some (.int .u64 a') := Qt.out.cell 2
  have xt3 : w9.cell? ⟨w5.heap.size, 3, none⟩ = some (.int .u64 b') := Qt.out.cell 3
  have xt4 : w9.cell? ⟨w5.heap.size, 4, none⟩ = some (.int .u64 c') := Qt.out.cell 4
  have xt5 : w9.cell? ⟨w5.heap.size, 5, none⟩ = some (.string p') := Qt.out.cell 5
  go_wp2_with fail
  go_ret
  exact ⟨rfl, B.out⟩

set_option maxHeartbeats 800000 in
set_option maxRecDepth 100000 in
theorem isop_op7 (k : Nat) (a b c : Int) (p : ByteArray) (a' b' c' : Int) (p' m' : ByteArray) (pre : Bool) (w : World) (hp : p.size ≤ maxLen) (hp' : p'.size ≤ maxLen) (hm' : m'.size ≤ maxLen) (hv : Vars w) (f0 : decide (p.size ≤ 2147483647) = true) (f1 : fitB p' m' = true) (s0 : p.size ≤ 2147483647) (s1 : p'.size ≤ 2147483647 ∧ m'.size ≤ 2147483647) (hk : k ≤ 3) (f2 : goodT 7 k a b c p = true) (f3 : verOk ⟨0, 0, 0, p', m'⟩ = true) (r : Bool) (hr : ∀ g h, OpIs (opF 7) g h a' b' c' p' m' a b c p ByteArray.empty (opS 7) ByteArray.empty (k == 1) (decide (k < 3)) (k == 2) pre r) (hown : ∀ g h, OpIs (opF 4) g h a' b' c' p' m' a' b' c' p' ByteArray.empty (opS 4) ByteArray.empty (3 == 1) (decide (3 < 3)) (3 == 2) true true) :
    Calls Tryd.prog 14 #[.agg #[.int .i64 7, .int .i64 (k : Int), .int .u64 a, .int .u64 b, .int .u64 c, .string p], .agg (scells a' b' c' p' m'), .bool pre] w fun e w' => e = .returned (.bool true) ∧ Below w.heap.size w w' := by
  have B := hid (show Below w.heap.size w ((w.alloc (.cells #[.int .i64 7, .int .i64 (k : Int), .int .u64 a, .int .u64 b, .int .u64 c, .string p] 36)).alloc (.cells #[.int .u64 a', .int .u64 b', .int .u64 c', .string p', .string m'] 27)) by go_grown)
  have Z := hid (show w.heap.size + 2 ≤ ((w.alloc (.cells #[.int .i64 7, .int .i64 (k : Int), .int .u64 a, .int .u64 b, .int .u64 c, .string p] 36)).alloc (.cells #[.int .u64 a', .int .u64 b', .int .u64 c', .string p', .string m'] 27)).heap.size by simp only [World.size_alloc]; omega)
  obtain ⟨qa, qb⟩ := two_new w (#[.int .i64 7, .int .i64 (k : Int), .int .u64 a, .int .u64 b, .int .u64 c, .string p]) (#[.int .u64 a', .int .u64 b', .int .u64 c', .string p', .string m']) 36 27
  have Qa := hid qa
  have Qb := hid qb
  clear qa qb
  have HV := hid hv
  clear hv
  have HR := hid hr
  clear hr
  have HO := hid hown
  clear hown
  go_enter Tryd.func14, Tryd.ntmps14
  go_wp2_with fail
  go_at_call 25
  refine (fits13_any _ _ a b c p _ hp).mono ?_
  rintro e w1 ⟨rfl, hb⟩
  replace Qa := hid ((Qa.out).below hb)
  replace Qb := hid ((Qb.out).below hb)
  replace Z := hid (Nat.le_trans (Nat.le_trans Z.out (by first | exact Nat.le_refl _ | omega | (simp only [World.size_alloc, World.size_drew]; omega))) hb.size)
  replace B := hid (bt B.out hb)
  clear hb
  have xa0 : w1.cell? ⟨w.heap.size, 0, none⟩ = some (.int .i64 7) := Qa.out.cell 0
  have xa1 : w1.cell? ⟨w.heap.size, 1, none⟩ = some (.int .i64 (k : Int)) := Qa.out.cell 1
  have xa2 : w1.cell? ⟨w.heap.size, 2, none⟩ = some (.int .u64 a) := Qa.out.cell 2
  have xa3 : w1.cell? ⟨w.heap.size, 3, none⟩ = some (.int .u64 b) := Qa.out.cell 3
  have xa4 : w1.cell? ⟨w.heap.size, 4, none⟩ = some (.int .u64 c) := Qa.out.cell 4
  have xa5 : w1.cell? ⟨w.heap.size, 5, none⟩ = some (.string p) := Qa.out.cell 5
  have xb0 : w1.cell? ⟨w.heap.size + 1, 0, none⟩ = some (.int .u64 a') := Qb.out.cell 0
  have xb1 : w1.cell? ⟨w.heap.size + 1, 1, none⟩ = some (.int .u64 b') := Qb.out.cell 1
  have xb2 : w1.cell? ⟨w.heap.size + 1, 2, none⟩ = some (.int .u64 c') := Qb.out.cell 2
  have xb3 : w1.cell? ⟨w.heap.size + 1, 3, none⟩ = some (.string p') := Qb.out.cell 3
  have xb4 : w1.cell? ⟨w.heap.size + 1, 4, none⟩ = some (.string m') := Qb.out.cell 4
  go_wp2_with fail
  go_at_call 17
  refine (fitB_any a' b' c' p' m' _ hp' hm').mono ?_
  rintro e w2 ⟨rfl, hb⟩
  replace Qa := hid ((Qa.out).below hb)
  replace Qb := hid ((Qb.out).below hb)
  replace Z := hid (Nat.le_trans (Nat.le_trans Z.out (by first | exact Nat.le_refl _ | omega | (simp only [World.size_alloc, World.size_drew]; omega))) hb.size)
  replace B := hid (bt B.out hb)
  clear hb
  have xa0 : w2.cell? ⟨w.heap.size, 0, none⟩ = some (.int .i64 7) := Qa.out.cell 0
  have xa1 : w2.cell? ⟨w.heap.size, 1, none⟩ = some (.int .i64 (k : Int)) := Qa.out.cell 1
  have xa2 : w2.cell? ⟨w.heap.size, 2, none⟩ = some (.int .u64 a) := Qa.out.cell 2
  have xa3 : w2.cell? ⟨w.heap.size, 3, none⟩ = some (.int .u64 b) := Qa.out.cell 3
  have xa4 : w2.cell? ⟨w.heap.size, 4, none⟩ = some (.int .u64 c) := Qa.out.cell 4
  have xa5 : w2.cell? ⟨w.heap.size, 5, none⟩ = some (.string p) := Qa.out.cell 5
  have xb0 : w2.cell? ⟨w.heap.size + 1, 0, none⟩ = some (.int .u64 a') := Qb.out.cell 0
  have xb1 : w2.cell? ⟨w.heap.size + 1, 1, none⟩ = some (.int .u64 b') := Qb.out.cell 1
  have xb2 : w2.cell? ⟨w.heap.size + 1, 2, none⟩ = some (.int .u64 c') := Qb.out.cell 2
  have xb3 : w2.cell? ⟨w.heap.size + 1, 3, none⟩ = some (.string p') := Qb.out.cell 3
  have xb4 : w2.cell? ⟨w.heap.size + 1, 4, none⟩ = some (.string m') := Qb.out.cell 4
  go_wp2_with fail
  go_at_call 34
  refine (goodTerm_any _ _ a b c p _ s0).mono ?_
  rintro e w3 ⟨rfl, hb⟩
  replace Qa := hid ((Qa.out).below hb)
  replace Qb := hid ((Qb.out).below hb)
  replace Z := hid (Nat.le_trans (Nat.le_trans Z.out (by first | exact Nat.le_refl _ | omega | (simp only [World.size_alloc, World.size_drew]; omega))) hb.size)
  replace B := hid (bt B.out hb)
  clear hb
  have xa0 : w3.cell? ⟨w.heap.size, 0, none⟩ = some (.int .i64 7) := Qa.out.cell 0
  have xa1 : w3.cell? ⟨w.heap.size, 1, none⟩ = some (.int .i64 (k : Int)) := Qa.out.cell 1
  have xa2 : w3.cell? ⟨w.heap.size, 2, none⟩ = some (.int .u64 a) := Qa.out.cell 2
  have xa3 : w3.cell? ⟨w.heap.size, 3, none⟩ = some (.int .u64 b) := Qa.out.cell 3
  have xa4 : w3.cell? ⟨w.heap.size, 4, none⟩ = some (.int .u64 c) := Qa.out.cell 4
  have xa5 : w3.cell? ⟨w.heap.size, 5, none⟩ = some (.string p) := Qa.out.cell 5
  have xb0 : w3.cell? ⟨w.heap.size + 1, 0, none⟩ = some (.int .u64 a') := Qb.out.cell 0
  have xb1 : w3.cell? ⟨w.heap.size + 1, 1, none⟩ = some (.int .u64 b') := Qb.out.cell 1
  have xb2 : w3.cell? ⟨w.heap.size + 1, 2, none⟩ = some (.int .u64 c') := Qb.out.cell 2
  have xb3 : w3.cell? ⟨w.heap.size + 1, 3, none⟩ = some (.string p') := Qb.out.cell 3
  have xb4 : w3.cell? ⟨w.heap.size + 1, 4, none⟩ = some (.string m') := Qb.out.cell 4
  go_wp2_with fail
  go_at_call 19
  refine (svGood1 a' b' c' p' m' s1.1 s1.2 _ _ _ (by simp)).mono ?_
  rintro e w4 ⟨rfl, hb⟩
  replace Qa := hid (((Qa.out.alloc _)).below hb)
  replace Qb := hid (((Qb.out.alloc _)).below hb)
  replace Z := hid (Nat.le_trans (Nat.le_trans Z.out (by first | exact Nat.le_refl _ | omega | (simp only [World.size_alloc, World.size_drew]; omega))) hb.size)
  replace B := hid (bt (B.out.alloc (by have := B.out.size; first | omega | (simp only [World.size_alloc]; omega)) _) hb)
  clear hb
  have xa0 : w4.cell? ⟨w.heap.size, 0, none⟩ = some (.int .i64 7) := Qa.out.cell 0
  have xa1 : w4.cell? ⟨w.heap.size, 1, none⟩ = some (.int .i64 (k : Int)) := Qa.out.cell 1
  have xa2 : w4.cell? ⟨w.heap.size, 2, none⟩ = some (.int .u64 a) := Qa.out.cell 2
  have xa3 : w4.cell? ⟨w.heap.size, 3, none⟩ = some (.int .u64 b) := Qa.out.cell 3
  have xa4 : w4.cell? ⟨w.heap.size, 4, none⟩ = some (.int .u64 c) := Qa.out.cell 4
  have xa5 : w4.cell? ⟨w.heap.size, 5, none⟩ = some (.string p) := Qa.out.cell 5
  have xb0 : w4.cell? ⟨w.heap.size + 1, 0, none⟩ = some (.int .u64 a') := Qb.out.cell 0
  have xb1 : w4.cell? ⟨w.heap.size + 1, 1, none⟩ = some (.int .u64 b') := Qb.out.cell 1
  have xb2 : w4.cell? ⟨w.heap.size + 1, 2, none⟩ = some (.int .u64 c') := Qb.out.cell 2
  have xb3 : w4.cell? ⟨w.heap.size + 1, 3, none⟩ = some (.string p') := Qb.out.cell 3
  have xb4 : w4.cell? ⟨w.heap.size + 1, 4, none⟩ = some (.string m') := Qb.out.cell 4
  go_wp2_with fail
  go_at_call 36
  refine (stTerm_3 4 a' b' c' p' m' _).mono ?_
  rintro e w5 ⟨rfl, hb⟩
  replace Qa := hid ((Qa.out).below hb)
  replace Qb := hid ((Qb.out).below hb)
  replace Z := hid (Nat.le_trans (Nat.le_trans Z.out (by first | exact Nat.le_refl _ | omega | (simp only [World.size_alloc, World.size_drew]; omega))) hb.size)
  replace B := hid (bt B.out hb)
  clear hb
  have xa0 : w5.cell? ⟨w.heap.size, 0, none⟩ = some (.int .i64 7) := Qa.out.cell 0
  have xa1 : w5.cell? ⟨w.heap.size, 1, none⟩ = some (.int .i64 (k : Int)) := Qa.out.cell 1
  have xa2 : w5.cell? ⟨w.heap.size, 2, none⟩ = some (.int .u64 a) := Qa.out.cell 2
  have xa3 : w5.cell? ⟨w.heap.size, 3, none⟩ = some (.int .u64 b) := Qa.out.cell 3
  have xa4 : w5.cell? ⟨w.heap.size, 4, none⟩ = some (.int .u64 c) := Qa.out.cell 4
  have xa5 : w5.cell? ⟨w.heap.size, 5, none⟩ = some (.string p) := Qa.out.cell 5
  have xb0 : w5.cell? ⟨w.heap.size + 1, 0, none⟩ = some (.int .u64 a') := Qb.out.cell 0
  have xb1 : w5.cell? ⟨w.heap.size + 1, 1, none⟩ = some (.int .u64 b') := Qb.out.cell 1
  have xb2 : w5.cell? ⟨w.heap.size + 1, 2, none⟩ = some (.int .u64 c') := Qb.out.cell 2
  have xb3 : w5.cell? ⟨w.heap.size + 1, 3, none⟩ = some (.string p') := Qb.out.cell 3
  have xb4 : w5.cell? ⟨w.heap.size + 1, 4, none⟩ = some (.string m') := Qb.out.cell 4
  have hz0 : w.heap.size < w5.heap.size := by have := Z.out; omega
  have hz1 : w.heap.size + 1 < w5.heap.size := by have := Z.out; omega
  go_wp2_with fail
  go_at_call 27
  refine (caretHolds_at 7 k (by omega) hk _ _ rfl rfl a' b' c' p' m' a b c p pre _ _ (HV.out.below (B.out.alloc (by have := B.out.size; omega) _)) HR.out).mono ?_
  rintro e w6 ⟨rfl, hb⟩
  replace Qa := hid (((Qa.out.alloc _)).below hb)
  replace Qb := hid (((Qb.out.alloc _)).below hb)
  have Qt := hid (((Blk.new _ _ _)).below hb)
  replace Z := hid (Nat.le_trans (Nat.le_trans Z.out (by first | exact Nat.le_refl _ | omega | (simp only [World.size_alloc, World.size_drew]; omega))) hb.size)
  replace B := hid (bt (B.out.alloc (by have := B.out.size; first | omega | (simp only [World.size_alloc]; omega)) _) hb)
  clear hb
  have xa0 : w6.cell? ⟨w.heap.size, 0, none⟩ = some (.int .i64 7) := Qa.out.cell 0
  have xa1 : w6.cell? ⟨w.heap.size, 1, none⟩ = some (.int .i64 (k : Int)) := Qa.out.cell 1
  have xa2 : w6.cell? ⟨w.heap.size, 2, none⟩ = some (.int .u64 a) := Qa.out.cell 2
  have xa3 : w6.cell? ⟨w.heap.size, 3, none⟩ = some (.int .u64 b) := Qa.out.cell 3
  have xa4 : w6.cell? ⟨w.heap.size, 4, none⟩ = some (.int .u64 c) := Qa.out.cell 4
  have xa5 : w6.cell? ⟨w.heap.size, 5, none⟩ = some (.string p) := Qa.out.cell 5
  have xb0 : w6.cell? ⟨w.heap.size + 1, 0, none⟩ = some (.int .u64 a') := Qb.out.cell 0
  have xb1 : w6.cell? ⟨w.heap.size + 1, 1, none⟩ = some (.int .u64 b') := Qb.out.cell 1
  have xb2 : w6.cell? ⟨w.heap.size + 1, 2, none⟩ = some (.int .u64 c') := Qb.out.cell 2
  have xb3 : w6.cell? ⟨w.heap.size + 1, 3, none⟩ = some (.string p') := Qb.out.cell 3
  have xb4 : w6.cell? ⟨w.heap.size + 1, 4, none⟩ = some (.string m') := Qb.out.cell 4
  have xt0 : w6.cell? ⟨w5.heap.size, 0, none⟩ = some (.int .i64 4) := Qt.out.cell 0
  have xt1 : w6.cell? ⟨w5.heap.size, 1, none⟩ = some (.int .i64 3) := Qt.out.cell 1
  have xt2 : w6.cell? ⟨w5.heap.size, 2, none⟩ = some (.int .u64 a') := Qt.out.cell 2
  have xt3 : w6.cell? ⟨w5.heap.size, 3, none⟩ = some (.int .u64 b') := Qt.out.cell 3
  have xt4 : w6.cell? ⟨w5.heap.size, 4, none⟩ = some (.int .u64 c') := Qt.out.cell 4
  have xt5 : w6.cell? ⟨w5.heap.size, 5, none⟩ = some (.string p') := Qt.out.cell 5
  go_wp2_with fail
  go_at_call 35
  refine (termHolds_at 7 k (by omega) hk _ _ rfl rfl a' b' c' p' m' a b c p pre _ _ (HV.out.below B.out) HR.out).mono ?_
  rintro e w7 ⟨rfl, hb⟩
  replace Qa := hid ((Qa.out).below hb)
  replace Qb := hid ((Qb.out).below hb)
  replace Qt := hid ((Qt.out).below hb)
  replace Z := hid (Nat.le_trans (Nat.le_trans Z.out (by first | exact Nat.le_refl _ | omega | (simp only [World.size_alloc, World.size_drew]; omega))) hb.size)
  replace B := hid (bt B.out hb)
  clear hb
  have xa0 : w7.cell? ⟨w.heap.size, 0, none⟩ = some (.int .i64 7) := Qa.out.cell 0
  have xa1 : w7.cell? ⟨w.heap.size, 1, none⟩ = some (.int .i64 (k : Int)) := Qa.out.cell 1
  have xa2 : w7.cell? ⟨w.heap.size, 2, none⟩ = some (.int .u64 a) := Qa.out.cell 2
  have xa3 : w7.cell? ⟨w.heap.size, 3, none⟩ = some (.int .u64 b) := Qa.out.cell 3
  have xa4 : w7.cell? ⟨w.heap.size, 4, none⟩ = some (.int .u64 c) := Qa.out.cell 4
  have xa5 : w7.cell? ⟨w.heap.size, 5, none⟩ = some (.string p) := Qa.out.cell 5
  have xb0 : w7.cell? ⟨w.heap.size + 1, 0, none⟩ = some (.int .u64 a') := Qb.out.cell 0
  have xb1 : w7.cell? ⟨w.heap.size + 1, 1, none⟩ = some (.int .u64 b') := Qb.out.cell 1
  have xb2 : w7.cell? ⟨w.heap.size + 1, 2, none⟩ = some (.int .u64 c') := Qb.out.cell 2
  have xb3 : w7.cell? ⟨w.heap.size + 1, 3, none⟩ = some (.string p') := Qb.out.cell 3
  have xb4 : w7.cell? ⟨w.heap.size + 1, 4, none⟩ = some (.string m') := Qb.out.cell 4
  have xt0 : w7.cell? ⟨w5.heap.size, 0, none⟩ = some (.int .i64 4) := Qt.out.cell 0
  have xt1 : w7.cell? ⟨w5.heap.size, 1, none⟩ = some (.int .i64 3) := Qt.out.cell 1
  have xt2 : w7.cell? ⟨w5.heap.size, 2, none⟩ = some (.int .u64 a') := Qt.out.cell 2
  have xt3 : w7.cell? ⟨w5.heap.size, 3, none⟩ = some (.int .u64 b') := Qt.out.cell 3
  have xt4 : w7.cell? ⟨w5.heap.size, 4, none⟩ = some (.int .u64 c') := Qt.out.cell 4
  have xt5 : w7.cell? ⟨w5.heap.size, 5, none⟩ = some (.string p') := Qt.out.cell 5
  go_wp2_with fail
  go_at_call 35
  refine (termHolds_at 4 3 (by omega) (by omega) _ _ rfl rfl a' b' c' p' m' a' b' c' p' true true _ (HV.out.below B.out) HO.out).mono ?_
  rintro e w8 ⟨rfl, hb⟩
  replace Qa := hid ((Qa.out).below hb)
  replace Qb := hid ((Qb.out).below hb)
  replace Qt := hid ((Qt.out).below hb)
  replace Z := hid (Nat.le_trans (Nat.le_trans Z.out (by first | exact Nat.le_refl _ | omega | (simp only [World.size_alloc, World.size_drew]; omega))) hb.size)
  replace B := hid (bt B.out hb)
  clear hb
  have xa0 : w8.cell? ⟨w.heap.size, 0, none⟩ = some (.int .i64 7) := Qa.out.cell 0
  have xa1 : w8.cell? ⟨w.heap.size, 1, none⟩ = some (.int .i64 (k : Int)) := Qa.out.cell 1
  have xa2 : w8.cell? ⟨w.heap.size, 2, none⟩ = some (.int .u64 a) := Qa.out.cell 2
  have xa3 : w8.cell? ⟨w.heap.size, 3, none⟩ = some (.int .u64 b) := Qa.out.cell 3
  have xa4 : w8.cell? ⟨w.heap.size, 4, none⟩ = some (.int .u64 c) := Qa.out.cell 4
  have xa5 : w8.cell? ⟨w.heap.size, 5, none⟩ = some (.string p) := Qa.out.cell 5
  have xb0 : w8.cell? ⟨w.heap.size + 1, 0, none⟩ = some (.int .u64 a') := Qb.out.cell 0
  have xb1 : w8.cell? ⟨w.heap.size + 1, 1, none⟩ = some (.int .u64 b') := Qb.out.cell 1
  have xb2 : w8.cell? ⟨w.heap.size + 1, 2, none⟩ = some (.int .u64 c') := Qb.out.cell 2
  have xb3 : w8.cell? ⟨w.heap.size + 1, 3, none⟩ = some (.string p') := Qb.out.cell 3
  have xb4 : w8.cell? ⟨w.heap.size + 1, 4, none⟩ = some (.string m') := Qb.out.cell 4
  have xt0 : w8.cell? ⟨w5.heap.size, 0, none⟩ = some (.int .i64 4) := Qt.out.cell 0
  have xt1 : w8.cell? ⟨w5.heap.size, 1, none⟩ = some (.int .i64 3) := Qt.out.cell 1
  have xt2 : w8.cell? ⟨w5.heap.size, 2, none⟩ = some (.int .u64 a') := Qt.out.cell 2
  have xt3 : w8.cell? ⟨w5.heap.size, 3, none⟩ = some (.int .u64 b') := Qt.out.cell 3
  have xt4 : w8.cell? ⟨w5.heap.size, 4, none⟩ = some (.int .u64 c') := Qt.out.cell 4
  have xt5 : w8.cell? ⟨w5.heap.size, 5, none⟩ = some (.string p') := Qt.out.cell 5
  go_wp2_with fail
  go_at_call 30
  refine (leastHolds_at 4 3 (by omega) (by omega) _ _ rfl rfl a' b' c' p' m' a' b' c' p' true true _ (HV.out.below B.out) HO.out).mono ?_
  rintro e w9 ⟨rfl, hb⟩
  replace Qa := hid ((Qa.out).below hb)
  replace Qb := hid ((Qb.out).below hb)
  replace Qt := hid ((Qt.out).below hb)
  replace Z := hid (Nat.le_trans (Nat.le_trans Z.out (by first | exact Nat.le_refl _ | omega | (simp only [World.size_alloc, World.size_drew]; omega))) hb.size)
  replace B := hid (bt B.out hb)
  clear hb
  have xa0 : w9.cell? ⟨w.heap.size, 0, none⟩ = some (.int .i64 7) := Qa.out.cell 0
  have xa1 : w9.cell? ⟨w.heap.size, 1, none⟩ = some (.int .i64 (k : Int)) := Qa.out.cell 1
  have xa2 : w9.cell? ⟨w.heap.size, 2, none⟩ = some (.int .u64 a) := Qa.out.cell 2
  have xa3 : w9.cell? ⟨w.heap.size, 3, none⟩ = some (.int .u64 b) := Qa.out.cell 3
  have xa4 : w9.cell? ⟨w.heap.size, 4, none⟩ = some (.int .u64 c) := Qa.out.cell 4
  have xa5 : w9.cell? ⟨w.heap.size, 5, none⟩ = some (.string p) := Qa.out.cell 5
  have xb0 : w9.cell? ⟨w.heap.size + 1, 0, none⟩ = some (.int .u64 a') := Qb.out.cell 0
  have xb1 : w9.cell? ⟨w.heap.size + 1, 1, none⟩ = some (.int .u64 b') := Qb.out.cell 1
  have xb2 : w9.cell? ⟨w.heap.size + 1, 2, none⟩ = some (.int .u64 c') := Qb.out.cell 2
  have xb3 : w9.cell? ⟨w.heap.size + 1, 3, none⟩ = some (.string p') := Qb.out.cell 3
  have xb4 : w9.cell? ⟨w.heap.size + 1, 4, none⟩ = some (.string m') := Qb.out.cell 4
  have xt0 : w9.cell? ⟨w5.heap.size, 0, none⟩ = some (.int .i64 4) := Qt.out.cell 0
  have xt1 : w9.cell? ⟨w5.heap.size, 1, none⟩ = some (.int .i64 3) := Qt.out.cell 1
  have xt2 : w9.cell? ⟨w5.heap.size, 2, none⟩ = some (.int .u64 a') := Qt.out.cell 2
  have xt3 : w9.cell? ⟨w5.heap.size, 3, none⟩ = some (.int .u64 b') := Qt.out.cell 3
  have xt4 : w9.cell? ⟨w5.heap.size, 4, none⟩ = some (.int .u64 c') := Qt.out.cell 4
  have xt5 : w9.cell? ⟨w5.heap.size, 5, none⟩ = some (.string p') := Qt.out.cell 5
  go_wp2_with fail
  go_ret
  exact ⟨rfl, B.out⟩

end Go.Proofs.YtmlbjcdildaldaaDoor

set_option linter.unusedVariables false
set_option linter.unusedSimpArgs false
namespace Go.Proofs.YtmlbjcdildaldaaDoor
open Go.RowKit

theorem fnSemverTermIsOp_walk (o k : Int) (a b c : Int) (p : ByteArray) (a' b' c' : Int) (p' m' : ByteArray) (pre : Bool) (w : World) (w0 : (Lit.int .i64 o).wf = true) (w1 : (Lit.int .i64 k).wf = true) (wa : (Lit.int .u64 a).wf = true) (wb : (Lit.int .u64 b).wf = true) (wc : (Lit.int .u64 c).wf = true) (hp : p.size ≤ maxLen) (wa' : (Lit.int .u64 a').wf = true) (wb' : (Lit.int .u64 b').wf = true) (wc' : (Lit.int .u64 c').wf = true) (hp' : p'.size ≤ maxLen) (hm' : m'.size ≤ maxLen) (hv : Vars w) :
    Calls Tryd.prog 14 #[.agg #[.int .i64 o, .int .i64 k, .int .u64 a, .int .u64 b, .int .u64 c, .string p], .agg (scells a' b' c' p' m'), .bool pre] w fun e w' => e = .returned (.bool true) ∧ Below w.heap.size w w' := by
  have ra := wf_u64 wa
  have rb := wf_u64 wb
  have rc := wf_u64 wc
  have ra' := wf_u64 wa'
  have rb' := wf_u64 wb'
  have rc' := wf_u64 wc'
  cases f0 : decide (p.size ≤ 2147483647)
  · exact isop_unfit1 o k a b c p a' b' c' p' m' pre w hp hp' hm' hv f0
  have s0 : p.size ≤ 2147483647 := of_decide_eq_true f0
  cases f1 : fitB p' m'
  · exact isop_unfit2 o k a b c p a' b' c' p' m' pre w hp hp' hm' hv f0 f1
  have s1 := fitB_size f1
  cases f2 : goodT o k a b c p
  · exact isop_ungood o k a b c p a' b' c' p' m' pre w hp hp' hm' hv f0 f1 s0 s1 f2
  cases f3 : verOk ⟨0, 0, 0, p', m'⟩
  · exact isop_bad o k a b c p a' b' c' p' m' pre w hp hp' hm' hv f0 f1 s0 s1 f2 f3
  obtain ⟨⟨o0, o8⟩, ⟨k0, k3⟩, g3, g2, g1, gp, _⟩ := goodT_parts f2
  obtain ⟨on, rfl⟩ := Int.eq_ofNat_of_zero_le o0
  obtain ⟨kn, rfl⟩ := Int.eq_ofNat_of_zero_le k0
  have ho : on < 8 := by omega
  have hk : kn ≤ 3 := by omega
  have op : ∀ g h, OpIs (opF on) g h a' b' c' p' m' a b c p ByteArray.empty (opS on) ByteArray.empty (kn == 1) (decide (kn < 3)) (kn == 2) pre (opV on a' b' c' p' a b c p kn pre) :=
    fun g h => opIs_any on ho kn a' b' c' p' m' a b c p ByteArray.empty (opS on) ByteArray.empty pre s1.1 s0 (fun e => (g3 (by omega)).2) ra'.1 rb'.1 ra.1 rb.1 g h
  have own : ∀ g h, OpIs (opF 4) g h a' b' c' p' m' a' b' c' p' ByteArray.empty (opS 4) ByteArray.empty (3 == 1) (decide (3 < 3)) (3 == 2) true true :=
    fun g h => by
      have q := opIs_any 4 (by omega) 3 a' b' c' p' m' a' b' c' p' ByteArray.empty (opS 4) ByteArray.empty true s1.1 s1.1 (fun e => by omega) ra'.1 rb'.1 ra'.1 rb'.1 g h
      rw [own_least] at q
      exact q
  obtain rfl | rfl | rfl | rfl | rfl | rfl | rfl | rfl : on = 0 ∨ on = 1 ∨ on = 2 ∨ on = 3 ∨ on = 4 ∨ on = 5 ∨ on = 6 ∨ on = 7 := by omega
  · exact isop_op0 kn a b c p a' b' c' p' m' pre w hp hp' hm' hv f0 f1 s0 s1 hk f2 f3 _ op own
  · exact isop_op1 kn a b c p a' b' c' p' m' pre w hp hp' hm' hv f0 f1 s0 s1 hk f2 f3 _ op own
  · exact isop_op2 kn a b c p a' b' c' p' m' pre w hp hp' hm' hv f0 f1 s0 s1 hk f2 f3 _ op own
  · exact isop_op3 kn a b c p a' b' c' p' m' pre w hp hp' hm' hv f0 f1 s0 s1 hk f2 f3 _ op own
  · exact isop_op4 kn a b c p a' b' c' p' m' pre w hp hp' hm' hv f0 f1 s0 s1 hk f2 f3 _ op own
  · exact isop_op5 kn a b c p a' b' c' p' m' pre w hp hp' hm' hv f0 f1 s0 s1 hk f2 f3 _ op own
  · exact isop_op6 kn a b c p a' b' c' p' m' pre w hp hp' hm' hv f0 f1 s0 s1 hk f2 f3 _ op own
  · exact isop_op7 kn a b c p a' b' c' p' m' pre w hp hp' hm' hv f0 f1 s0 s1 hk f2 f3 _ op own

end Go.Proofs.YtmlbjcdildaldaaDoor
