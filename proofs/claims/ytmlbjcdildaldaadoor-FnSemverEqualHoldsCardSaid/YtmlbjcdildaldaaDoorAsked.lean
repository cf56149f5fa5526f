/- snAs, spec.Spoken, snAsked, spec.Least, walked. Terms with an operator of any number: the doors of =, >= and ^, walked. -/
import Derived.Test.YtmlbjcdildaldaaDoorGoodT
import Derived.Test.YtmlbjcdildaldaaDoorWild
import Derived.Test.YtmlbjcdildaldaaDoorDoorC
import Derived.Laws.BitsAllLaws
set_option linter.unusedVariables false
set_option linter.unusedSimpArgs false
namespace Go.Proofs.YtmlbjcdildaldaaDoor
open Go.RowKit

theorem snAs_exact (o q k a b c : Int) (p : ByteArray) (w : World) : Calls Tryd.prog 66 #[.agg #[.int .i64 o, .int .i64 k, .int .u64 a, .int .u64 b, .int .u64 c, .string p], .int .i64 q] w fun e w' => e = .returned (.agg #[.int .i64 q, .int .i64 k, .int .u64 a, .int .u64 b, .int .u64 c, .string p]) ∧ w' = (w.alloc (.cells #[.int .i64 q, .int .i64 k, .int .u64 a, .int .u64 b, .int .u64 c, .string p] 36)).alloc (.cells #[.int .i64 q, .int .i64 k, .int .u64 a, .int .u64 b, .int .u64 c, .string p] 36) := by
  go_enter Tryd.func66, Tryd.ntmps66
  go_wp2_with fail
  go_returns
  exact ⟨rfl, rfl⟩
theorem leastV_any (o k a b c : Int) (p : ByteArray) (w : World) : Calls Tryd.prog 31 #[.agg #[.int .i64 o, .int .i64 k, .int .u64 a, .int .u64 b, .int .u64 c, .string p]] w fun e w' => e = .returned (.agg (scells a b c p ByteArray.empty)) ∧ Below w.heap.size w w' := by
  go_enter Tryd.func31, Tryd.ntmps31
  go_wp2_with fail
  go_returns
  exact ⟨rfl, by go_grown⟩

theorem spoken_0 (k a b c : Int) (p : ByteArray) (a' b' c' : Int) (p' m' : ByteArray) (w : World) :
    Calls Tryd.prog 67 #[.agg #[.int .i64 0, .int .i64 k, .int .u64 a, .int .u64 b, .int .u64 c, .string p], .agg (scells a' b' c' p' m')] w fun e w' => e = .returned (.bool true) ∧ Below w.heap.size w w' := by
  cases h2 : (k == 2)
  · cases h3 : (k == 3)
    · go_enter Tryd.func67, Tryd.ntmps67
      go_wp2_with fail
      go_ret
      exact ⟨rfl, by go_grown⟩
    · go_enter Tryd.func67, Tryd.ntmps67
      go_wp2_with fail
      go_ret
      exact ⟨rfl, by go_grown⟩
  · have h3 : (k == 3) = false := beq_eq_false_iff_ne.2 (by have := beq_iff_eq.1 h2; omega)
    go_enter Tryd.func67, Tryd.ntmps67
    go_wp2_with fail
    go_ret
    exact ⟨rfl, by go_grown⟩

theorem spoken_7 (k a b c : Int) (p : ByteArray) (a' b' c' : Int) (p' m' : ByteArray) (w : World) :
    Calls Tryd.prog 67 #[.agg #[.int .i64 7, .int .i64 k, .int .u64 a, .int .u64 b, .int .u64 c, .string p], .agg (scells a' b' c' p' m')] w fun e w' => e = .returned (.bool true) ∧ Below w.heap.size w w' := by
  cases h2 : (k == 2)
  · cases h3 : (k == 3)
    · go_enter Tryd.func67, Tryd.ntmps67
      go_wp2_with fail
      go_ret
      exact ⟨rfl, by go_grown⟩
    · go_enter Tryd.func67, Tryd.ntmps67
      go_wp2_with fail
      go_ret
      exact ⟨rfl, by go_grown⟩
  · have h3 : (k == 3) = false := beq_eq_false_iff_ne.2 (by have := beq_iff_eq.1 h2; omega)
    go_enter Tryd.func67, Tryd.ntmps67
    go_wp2_with fail
    go_ret
    exact ⟨rfl, by go_grown⟩

set_option maxHeartbeats 800000 in
set_option maxRecDepth 100000 in
theorem asked_0_bad (o k : Int) (a b c : Int) (p : ByteArray) (a' b' c' : Int) (p' m' : ByteArray) (w : World) (s0 : p.size ≤ 2147483647) (s1 : p'.size ≤ 2147483647 ∧ m'.size ≤ 2147483647) (hg : goodT 0 k a b c p = false) :
    Calls Tryd.prog 26 #[.agg #[.int .i64 o, .int .i64 k, .int .u64 a, .int .u64 b, .int .u64 c, .string p], .int .i64 0, .agg (scells a' b' c' p' m')] w fun e w' => e = .returned (.bool (goodT 0 k a b c p && verOk ⟨0, 0, 0, p', m'⟩)) ∧ Below w.heap.size w w' := by
  have B := hid (show Below w.heap.size w ((w.alloc (.cells #[.int .i64 o, .int .i64 k, .int .u64 a, .int .u64 b, .int .u64 c, .string p] 36)).alloc (.cells #[.int .u64 a', .int .u64 b', .int .u64 c', .string p', .string m'] 27)) by go_grown)
  have Z := hid (show w.heap.size + 2 ≤ ((w.alloc (.cells #[.int .i64 o, .int .i64 k, .int .u64 a, .int .u64 b, .int .u64 c, .string p] 36)).alloc (.cells #[.int .u64 a', .int .u64 b', .int .u64 c', .string p', .string m'] 27)).heap.size by simp only [World.size_alloc]; omega)
  obtain ⟨qa, qb⟩ := two_new w (#[.int .i64 o, .int .i64 k, .int .u64 a, .int .u64 b, .int .u64 c, .string p]) (#[.int .u64 a', .int .u64 b', .int .u64 c', .string p', .string m']) 36 27
  have Qa := hid qa
  have Qb := hid qb
  clear qa qb
  go_enter Tryd.func26, Tryd.ntmps26
  go_wp2_with fail
  go_at_call 66
  refine (snAs_exact o 0 k a b c p _).mono ?_
  rintro e w' ⟨rfl, rfl⟩
  go_wp2_with fail
  go_at_call 34
  refine (goodTerm_any 0 k a b c p _ s0).mono ?_
  rintro e w1 ⟨rfl, hb⟩
  replace Qa := hid (((((Blk.new w 36 #[.int .i64 0, .int .i64 k, .int .u64 a, .int .u64 b, .int .u64 c, .string p]).alloc _).alloc _).alloc _).below hb)
  have qb := Blk.new (w.alloc (.cells #[.int .i64 0, .int .i64 k, .int .u64 a, .int .u64 b, .int .u64 c, .string p] 36)) 27 (scells a' b' c' p' m')
  rw [World.size_alloc] at qb
  replace Qb := hid (((qb.alloc _).alloc _).below hb)
  clear qb
  have B' := hid (bt (show Below w.heap.size w _ by go_grown) hb)
  have Z' := hid (show w.heap.size + 2 ≤ w1.heap.size by have := hb.size; simp only [World.size_alloc] at this; omega)
  clear B Z hb
  have B := hid B'.out
  have Z := hid Z'.out
  clear B' Z'
  have xa0 : w1.cell? ⟨w.heap.size, 0, none⟩ = some (.int .i64 0) := Qa.out.cell 0
  have xa1 : w1.cell? ⟨w.heap.size, 1, none⟩ = some (.int .i64 k) := Qa.out.cell 1
  have xa2 : w1.cell? ⟨w.heap.size, 2, none⟩ = some (.int .u64 a) := Qa.out.cell 2
  have xa3 : w1.cell? ⟨w.heap.size, 3, none⟩ = some (.int .u64 b) := Qa.out.cell 3
  have xa4 : w1.cell? ⟨w.heap.size, 4, none⟩ = some (.int .u64 c) := Qa.out.cell 4
  have xa5 : w1.cell? ⟨w.heap.size, 5, none⟩ = some (.string p) := Qa.out.cell 5
  have xb0 : w1.cell? ⟨w.heap.size + 1, 0, none⟩ = some (.int .u64 a') := Qb.out.cell 0
  have xb1 : w1.cell? ⟨w.heap.size + 1, 1, none⟩ = some (.int .u64 b') := Qb.out.cell 1
  have xb2 : w1.cell? ⟨w.heap.size + 1, 2, none⟩ = some (.int .u64 c') := Qb.out.cell 2
  have xb3 : w1.cell? ⟨w.heap.size + 1, 3, none⟩ = some (.string p') := Qb.out.cell 3
  have xb4 : w1.cell? ⟨w.heap.size + 1, 4, none⟩ = some (.string m') := Qb.out.cell 4
  go_wp2_with fail
  go_ret
  exact ⟨ret_b (by simp [hg]), B.out⟩

set_option maxHeartbeats 800000 in
set_option maxRecDepth 100000 in
theorem asked_0_no (o k : Int) (a b c : Int) (p : ByteArray) (a' b' c' : Int) (p' m' : ByteArray) (w : World) (s0 : p.size ≤ 2147483647) (s1 : p'.size ≤ 2147483647 ∧ m'.size ≤ 2147483647) (hg : goodT 0 k a b c p = true) (hq : verOk ⟨0, 0, 0, p', m'⟩ = false) :
    Calls Tryd.prog 26 #[.agg #[.int .i64 o, .int .i64 k, .int .u64 a, .int .u64 b, .int .u64 c, .string p], .int .i64 0, .agg (scells a' b' c' p' m')] w fun e w' => e = .returned (.bool (goodT 0 k a b c p && verOk ⟨0, 0, 0, p', m'⟩)) ∧ Below w.heap.size w w' := by
  have B := hid (show Below w.heap.size w ((w.alloc (.cells #[.int .i64 o, .int .i64 k, .int .u64 a, .int .u64 b, .int .u64 c, .string p] 36)).alloc (.cells #[.int .u64 a', .int .u64 b', .int .u64 c', .string p', .string m'] 27)) by go_grown)
  have Z := hid (show w.heap.size + 2 ≤ ((w.alloc (.cells #[.int .i64 o, .int .i64 k, .int .u64 a, .int .u64 b, .int .u64 c, .string p] 36)).alloc (.cells #[.int .u64 a', .int .u64 b', .int .u64 c', .string p', .string m'] 27)).heap.size by simp only [World.size_alloc]; omega)
  obtain ⟨qa, qb⟩ := two_new w (#[.int .i64 o, .int .i64 k, .int .u64 a, .int .u64 b, .int .u64 c, .string p]) (#[.int .u64 a', .int .u64 b', .int .u64 c', .string p', .string m']) 36 27
  have Qa := hid qa
  have Qb := hid qb
  clear qa qb
  go_enter Tryd.func26, Tryd.ntmps26
  go_wp2_with fail
  go_at_call 66
  refine (snAs_exact o 0 k a b c p _).mono ?_
  rintro e w' ⟨rfl, rfl⟩
  go_wp2_with fail
  go_at_call 34
  refine (goodTerm_any 0 k a b c p _ s0).mono ?_
  rintro e w1 ⟨rfl, hb⟩
  replace Qa := hid (((((Blk.new w 36 #[.int .i64 0, .int .i64 k, .int .u64 a, .int .u64 b, .int .u64 c, .string p]).alloc _).alloc _).alloc _).below hb)
  have qb := Blk.new (w.alloc (.cells #[.int .i64 0, .int .i64 k, .int .u64 a, .int .u64 b, .int .u64 c, .string p] 36)) 27 (scells a' b' c' p' m')
  rw [World.size_alloc] at qb
  replace Qb := hid (((qb.alloc _).alloc _).below hb)
  clear qb
  have B' := hid (bt (show Below w.heap.size w _ by go_grown) hb)
  have Z' := hid (show w.heap.size + 2 ≤ w1.heap.size by have := hb.size; simp only [World.size_alloc] at this; omega)
  clear B Z hb
  have B := hid B'.out
  have Z := hid Z'.out
  clear B' Z'
  have xa0 : w1.cell? ⟨w.heap.size, 0, none⟩ = some (.int .i64 0) := Qa.out.cell 0
  have xa1 : w1.cell? ⟨w.heap.size, 1, none⟩ = some (.int .i64 k) := Qa.out.cell 1
  have xa2 : w1.cell? ⟨w.heap.size, 2, none⟩ = some (.int .u64 a) := Qa.out.cell 2
  have xa3 : w1.cell? ⟨w.heap.size, 3, none⟩ = some (.int .u64 b) := Qa.out.cell 3
  have xa4 : w1.cell? ⟨w.heap.size, 4, none⟩ = some (.int .u64 c) := Qa.out.cell 4
  have xa5 : w1.cell? ⟨w.heap.size, 5, none⟩ = some (.string p) := Qa.out.cell 5
  have xb0 : w1.cell? ⟨w.heap.size + 1, 0, none⟩ = some (.int .u64 a') := Qb.out.cell 0
  have xb1 : w1.cell? ⟨w.heap.size + 1, 1, none⟩ = some (.int .u64 b') := Qb.out.cell 1
  have xb2 : w1.cell? ⟨w.heap.size + 1, 2, none⟩ = some (.int .u64 c') := Qb.out.cell 2
  have xb3 : w1.cell? ⟨w.heap.size + 1, 3, none⟩ = some (.string p') := Qb.out.cell 3
  have xb4 : w1.cell? ⟨w.heap.size + 1, 4, none⟩ = some (.string m') := Qb.out.cell 4
  go_wp2_with fail
  go_at_call 19
  refine (svGood1 a' b' c' p' m' s1.1 s1.2 _ _ _ (by simp)).mono ?_
  rintro e w2 ⟨rfl, hb⟩
  replace Qa := hid (((Qa.out.alloc _)).below hb)
  replace Qb := hid (((Qb.out.alloc _)).below hb)
  replace Z := hid (Nat.le_trans (Nat.le_trans Z.out (by first | exact Nat.le_refl _ | omega | (simp only [World.size_alloc, World.size_drew]; omega))) hb.size)
  replace B := hid (bt (B.out.alloc (by have := B.out.size; first | omega | (simp only [World.size_alloc]; omega)) _) hb)
  clear hb
  have xa0 : w2.cell? ⟨w.heap.size, 0, none⟩ = some (.int .i64 0) := Qa.out.cell 0
  have xa1 : w2.cell? ⟨w.heap.size, 1, none⟩ = some (.int .i64 k) := Qa.out.cell 1
  have xa2 : w2.cell? ⟨w.heap.size, 2, none⟩ = some (.int .u64 a) := Qa.out.cell 2
  have xa3 : w2.cell? ⟨w.heap.size, 3, none⟩ = some (.int .u64 b) := Qa.out.cell 3
  have xa4 : w2.cell? ⟨w.heap.size, 4, none⟩ = some (.int .u64 c) := Qa.out.cell 4
  have xa5 : w2.cell? ⟨w.heap.size, 5, none⟩ = some (.string p) := Qa.out.cell 5
  have xb0 : w2.cell? ⟨w.heap.size + 1, 0, none⟩ = some (.int .u64 a') := Qb.out.cell 0
  have xb1 : w2.cell? ⟨w.heap.size + 1, 1, none⟩ = some (.int .u64 b') := Qb.out.cell 1
  have xb2 : w2.cell? ⟨w.heap.size + 1, 2, none⟩ = some (.int .u64 c') := Qb.out.cell 2
  have xb3 : w2.cell? ⟨w.heap.size + 1, 3, none⟩ = some (.string p') := Qb.out.cell 3
  have xb4 : w2.cell? ⟨w.heap.size + 1, 4, none⟩ = some (.string m') := Qb.out.cell 4
  go_wp2_with fail
  go_ret
  exact ⟨ret_b (by simp [hg, hq]), B.out⟩

set_option maxHeartbeats 800000 in
set_option maxRecDepth 100000 in
theorem asked_0_yes (o k : Int) (a b c : Int) (p : ByteArray) (a' b' c' : Int) (p' m' : ByteArray) (w : World) (s0 : p.size ≤ 2147483647) (s1 : p'.size ≤ 2147483647 ∧ m'.size ≤ 2147483647) (hg : goodT 0 k a b c p = true) (hq : verOk ⟨0, 0, 0, p', m'⟩ = true) :
    Calls Tryd.prog 26 #[.agg #[.int .i64 o, .int .i64 k, .int .u64 a, .int .u64 b, .int .u64 c, .string p], .int .i64 0, .agg (scells a' b' c' p' m')] w fun e w' => e = .returned (.bool (goodT 0 k a b c p && verOk ⟨0, 0, 0, p', m'⟩)) ∧ Below w.heap.size w w' := by
  have B := hid (show Below w.heap.size w ((w.alloc (.cells #[.int .i64 o, .int .i64 k, .int .u64 a, .int .u64 b, .int .u64 c, .string p] 36)).alloc (.cells #[.int .u64 a', .int .u64 b', .int .u64 c', .string p', .string m'] 27)) by go_grown)
  have Z := hid (show w.heap.size + 2 ≤ ((w.alloc (.cells #[.int .i64 o, .int .i64 k, .int .u64 a, .int .u64 b, .int .u64 c, .string p] 36)).alloc (.cells #[.int .u64 a', .int .u64 b', .int .u64 c', .string p', .string m'] 27)).heap.size by simp only [World.size_alloc]; omega)
  obtain ⟨qa, qb⟩ := two_new w (#[.int .i64 o, .int .i64 k, .int .u64 a, .int .u64 b, .int .u64 c, .string p]) (#[.int .u64 a', .int .u64 b', .int .u64 c', .string p', .string m']) 36 27
  have Qa := hid qa
  have Qb := hid qb
  clear qa qb
  go_enter Tryd.func26, Tryd.ntmps26
  go_wp2_with fail
  go_at_call 66
  refine (snAs_exact o 0 k a b c p _).mono ?_
  rintro e w' ⟨rfl, rfl⟩
  go_wp2_with fail
  go_at_call 34
  refine (goodTerm_any 0 k a b c p _ s0).mono ?_
  rintro e w1 ⟨rfl, hb⟩
  replace Qa := hid (((((Blk.new w 36 #[.int .i64 0, .int .i64 k, .int .u64 a, .int .u64 b, .int .u64 c, .string p]).alloc _).alloc _).alloc _).below hb)
  have qb := Blk.new (w.alloc (.cells #[.int .i64 0, .int .i64 k, .int .u64 a, .int .u64 b, .int .u64 c, .string p] 36)) 27 (scells a' b' c' p' m')
  rw [World.size_alloc] at qb
  replace Qb := hid (((qb.alloc _).alloc _).below hb)
  clear qb
  have B' := hid (bt (show Below w.heap.size w _ by go_grown) hb)
  have Z' := hid (show w.heap.size + 2 ≤ w1.heap.size by have := hb.size; simp only [World.size_alloc] at this; omega)
  clear B Z hb
  have B := hid B'.out
  have Z := hid Z'.out
  clear B' Z'
  have xa0 : w1.cell? ⟨w.heap.size, 0, none⟩ = some (.int .i64 0) := Qa.out.cell 0
  have xa1 : w1.cell? ⟨w.heap.size, 1, none⟩ = some (.int .i64 k) := Qa.out.cell 1
  have xa2 : w1.cell? ⟨w.heap.size, 2, none⟩ = some (.int .u64 a) := Qa.out.cell 2
  have xa3 : w1.cell? ⟨w.heap.size, 3, none⟩ = some (.int .u64 b) := Qa.out.cell 3
  have xa4 : w1.cell? ⟨w.heap.size, 4, none⟩ = some (.int .u64 c) := Qa.out.cell 4
  have xa5 : w1.cell? ⟨w.heap.size, 5, none⟩ = some (.string p) := Qa.out.cell 5
  have xb0 : w1.cell? ⟨w.heap.size + 1, 0, none⟩ = some (.int .u64 a') := Qb.out.cell 0
  have xb1 : w1.cell? ⟨w.heap.size + 1, 1, none⟩ = some (.int .u64 b') := Qb.out.cell 1
  have xb2 : w1.cell? ⟨w.heap.size + 1, 2, none⟩ = some (.int .u64 c') := Qb.out.cell 2
  have xb3 : w1.cell? ⟨w.heap.size + 1, 3, none⟩ = some (.string p') := Qb.out.cell 3
  have xb4 : w1.cell? ⟨w.heap.size + 1, 4, none⟩ = some (.string m') := Qb.out.cell 4
  go_wp2_with fail
  go_at_call 19
  refine (svGood1 a' b' c' p' m' s1.1 s1.2 _ _ _ (by simp)).mono ?_
  rintro e w2 ⟨rfl, hb⟩
  replace Qa := hid (((Qa.out.alloc _)).below hb)
  replace Qb := hid (((Qb.out.alloc _)).below hb)
  replace Z := hid (Nat.le_trans (Nat.le_trans Z.out (by first | exact Nat.le_refl _ | omega | (simp only [World.size_alloc, World.size_drew]; omega))) hb.size)
  replace B := hid (bt (B.out.alloc (by have := B.out.size; first | omega | (simp only [World.size_alloc]; omega)) _) hb)
  clear hb
  have xa0 : w2.cell? ⟨w.heap.size, 0, none⟩ = some (.int .i64 0) := Qa.out.cell 0
  have xa1 : w2.cell? ⟨w.heap.size, 1, none⟩ = some (.int .i64 k) := Qa.out.cell 1
  have xa2 : w2.cell? ⟨w.heap.size, 2, none⟩ = some (.int .u64 a) := Qa.out.cell 2
  have xa3 : w2.cell? ⟨w.heap.size, 3, none⟩ = some (.int .u64 b) := Qa.out.cell 3
  have xa4 : w2.cell? ⟨w.heap.size, 4, none⟩ = some (.int .u64 c) := Qa.out.cell 4
  have xa5 : w2.cell? ⟨w.heap.size, 5, none⟩ = some (.string p) := Qa.out.cell 5
  have xb0 : w2.cell? ⟨w.heap.size + 1, 0, none⟩ = some (.int .u64 a') := Qb.out.cell 0
  have xb1 : w2.cell? ⟨w.heap.size + 1, 1, none⟩ = some (.int .u64 b') := Qb.out.cell 1
  have xb2 : w2.cell? ⟨w.heap.size + 1, 2, none⟩ = some (.int .u64 c') := Qb.out.cell 2
  have xb3 : w2.cell? ⟨w.heap.size + 1, 3, none⟩ = some (.string p') := Qb.out.cell 3
  have xb4 : w2.cell? ⟨w.heap.size + 1, 4, none⟩ = some (.string m') := Qb.out.cell 4
  go_wp2_with fail
  go_at_call 67
  refine (spoken_0 k a b c p a' b' c' p' m' _).mono ?_
  rintro e w3 ⟨rfl, hb⟩
  replace Qa := hid ((Qa.out).below hb)
  replace Qb := hid ((Qb.out).below hb)
  replace Z := hid (Nat.le_trans (Nat.le_trans Z.out (by first | exact Nat.le_refl _ | omega | (simp only [World.size_alloc, World.size_drew]; omega))) hb.size)
  replace B := hid (bt B.out hb)
  clear hb
  have xa0 : w3.cell? ⟨w.heap.size, 0, none⟩ = some (.int .i64 0) := Qa.out.cell 0
  have xa1 : w3.cell? ⟨w.heap.size, 1, none⟩ = some (.int .i64 k) := Qa.out.cell 1
  have xa2 : w3.cell? ⟨w.heap.size, 2, none⟩ = some (.int .u64 a) := Qa.out.cell 2
  have xa3 : w3.cell? ⟨w.heap.size, 3, none⟩ = some (.int .u64 b) := Qa.out.cell 3
  have xa4 : w3.cell? ⟨w.heap.size, 4, none⟩ = some (.int .u64 c) := Qa.out.cell 4
  have xa5 : w3.cell? ⟨w.heap.size, 5, none⟩ = some (.string p) := Qa.out.cell 5
  have xb0 : w3.cell? ⟨w.heap.size + 1, 0, none⟩ = some (.int .u64 a') := Qb.out.cell 0
  have xb1 : w3.cell? ⟨w.heap.size + 1, 1, none⟩ = some (.int .u64 b') := Qb.out.cell 1
  have xb2 : w3.cell? ⟨w.heap.size + 1, 2, none⟩ = some (.int .u64 c') := Qb.out.cell 2
  have xb3 : w3.cell? ⟨w.heap.size + 1, 3, none⟩ = some (.string p') := Qb.out.cell 3
  have xb4 : w3.cell? ⟨w.heap.size + 1, 4, none⟩ = some (.string m') := Qb.out.cell 4
  go_wp2_with fail
  go_ret
  exact ⟨ret_b (by simp [hg, hq]), B.out⟩

theorem asked_0 (o k : Int) (a b c : Int) (p : ByteArray) (a' b' c' : Int) (p' m' : ByteArray) (w : World) (s0 : p.size ≤ 2147483647) (s1 : p'.size ≤ 2147483647 ∧ m'.size ≤ 2147483647) :
    Calls Tryd.prog 26 #[.agg #[.int .i64 o, .int .i64 k, .int .u64 a, .int .u64 b, .int .u64 c, .string p], .int .i64 0, .agg (scells a' b' c' p' m')] w fun e w' => e = .returned (.bool (goodT 0 k a b c p && verOk ⟨0, 0, 0, p', m'⟩)) ∧ Below w.heap.size w w' := by
  cases hg : goodT 0 k a b c p
  · have q := asked_0_bad o k a b c p a' b' c' p' m' w s0 s1 hg
    rw [hg] at q
    exact q
  · cases hq : verOk ⟨0, 0, 0, p', m'⟩
    · have q := asked_0_no o k a b c p a' b' c' p' m' w s0 s1 hg hq
      rw [hg, hq] at q
      exact q
    · have q := asked_0_yes o k a b c p a' b' c' p' m' w s0 s1 hg hq
      rw [hg, hq] at q
      exact q

set_option maxHeartbeats 800000 in
set_option maxRecDepth 100000 in
theorem asked_7_bad (o k : Int) (a b c : Int) (p : ByteArray) (a' b' c' : Int) (p' m' : ByteArray) (w : World) (s0 : p.size ≤ 2147483647) (s1 : p'.size ≤ 2147483647 ∧ m'.size ≤ 2147483647) (hg : goodT 7 k a b c p = false) :
    Calls Tryd.prog 26 #[.agg #[.int .i64 o, .int .i64 k, .int .u64 a, .int .u64 b, .int .u64 c, .string p], .int .i64 7, .agg (scells a' b' c' p' m')] w fun e w' => e = .returned (.bool (goodT 7 k a b c p && verOk ⟨0, 0, 0, p', m'⟩)) ∧ Below w.heap.size w w' := by
  have B := hid (show Below w.heap.size w ((w.alloc (.cells #[.int .i64 o, .int .i64 k, .int .u64 a, .int .u64 b, .int .u64 c, .string p] 36)).alloc (.cells #[.int .u64 a', .int .u64 b', .int .u64 c', .string p', .string m'] 27)) by go_grown)
  have Z := hid (show w.heap.size + 2 ≤ ((w.alloc (.cells #[.int .i64 o, .int .i64 k, .int .u64 a, .int .u64 b, .int .u64 c, .string p] 36)).alloc (.cells #[.int .u64 a', .int .u64 b', .int .u64 c', .string p', .string m'] 27)).heap.size by simp only [World.size_alloc]; omega)
  obtain ⟨qa, qb⟩ := two_new w (#[.int .i64 o, .int .i64 k, .int .u64 a, .int .u64 b, .int .u64 c, .string p]) (#[.int .u64 a', .int .u64 b', .int .u64 c', .string p', .string m']) 36 27
  have Qa := hid qa
  have Qb := hid qb
  clear qa qb
  go_enter Tryd.func26, Tryd.ntmps26
  go_wp2_with fail
  go_at_call 66
  refine (snAs_exact o 7 k a b c p _).mono ?_
  rintro e w' ⟨rfl, rfl⟩
  go_wp2_with fail
  go_at_call 34
  refine (goodTerm_any 7 k a b c p _ s0).mono ?_
  rintro e w1 ⟨rfl, hb⟩
  replace Qa := hid (((((Blk.new w 36 #[.int .i64 7, .int .i64 k, .int .u64 a, .int .u64 b, .int .u64 c, .string p]).alloc _).alloc _).alloc _).below hb)
  have qb := Blk.new (w.alloc (.cells #[.int .i64 7, .int .i64 k, .int .u64 a, .int .u64 b, .int .u64 c, .string p] 36)) 27 (scells a' b' c' p' m')
  rw [World.size_alloc] at qb
  replace Qb := hid (((qb.alloc _).alloc _).below hb)
  clear qb
  have B' := hid (bt (show Below w.heap.size w _ by go_grown) hb)
  have Z' := hid (show w.heap.size + 2 ≤ w1.heap.size by have := hb.size; simp only [World.size_alloc] at this; omega)
  clear B Z hb
  have B := hid B'.out
  have Z := hid Z'.out
  clear B' Z'
  have xa0 : w1.cell? ⟨w.heap.size, 0, none⟩ = some (.int .i64 7) := Qa.out.cell 0
  have xa1 : w1.cell? ⟨w.heap.size, 1, none⟩ = some (.int .i64 k) := Qa.out.cell 1
  have xa2 : w1.cell? ⟨w.heap.size, 2, none⟩ = some (.int .u64 a) := Qa.out.cell 2
  have xa3 : w1.cell? ⟨w.heap.size, 3, none⟩ = some (.int .u64 b) := Qa.out.cell 3
  have xa4 : w1.cell? ⟨w.heap.size, 4, none⟩ = some (.int .u64 c) := Qa.out.cell 4
  have xa5 : w1.cell? ⟨w.heap.size, 5, none⟩ = some (.string p) := Qa.out.cell 5
  have xb0 : w1.cell? ⟨w.heap.size + 1, 0, none⟩ = some (.int .u64 a') := Qb.out.cell 0
  have xb1 : w1.cell? ⟨w.heap.size + 1, 1, none⟩ = some (.int .u64 b') := Qb.out.cell 1
  have xb2 : w1.cell? ⟨w.heap.size + 1, 2, none⟩ = some (.int .u64 c') := Qb.out.cell 2
  have xb3 : w1.cell? ⟨w.heap.size + 1, 3, none⟩ = some (.string p') := Qb.out.cell 3
  have xb4 : w1.cell? ⟨w.heap.size + 1, 4, none⟩ = some (.string m') := Qb.out.cell 4
  go_wp2_with fail
  go_ret
  exact ⟨ret_b (by simp [hg]), B.out⟩

set_option maxHeartbeats 800000 in
set_option maxRecDepth 100000 in
theorem asked_7_no (o k : Int) (a b c : Int) (p : ByteArray) (a' b' c' : Int) (p' m' : ByteArray) (w : World) (s0 : p.size ≤ 2147483647) (s1 : p'.size ≤ 2147483647 ∧ m'.size ≤ 2147483647) (hg : goodT 7 k a b c p = true) (hq : verOk ⟨0, 0, 0, p', m'⟩ = false) :
    Calls Tryd.prog 26 #[.agg #[.int .i64 o, .int .i64 k, .int .u64 a, .int .u64 b, .int .u64 c, .string p], .int .i64 7, .agg (scells a' b' c' p' m')] w fun e w' => e = .returned (.bool (goodT 7 k a b c p && verOk ⟨0, 0, 0, p', m'⟩)) ∧ Below w.heap.size w w' := by
  have B := hid (show Below w.heap.size w ((w.alloc (.cells #[.int .i64 o, .int .i64 k, .int .u64 a, .int .u64 b, .int .u64 c, .string p] 36)).alloc (.cells #[.int .u64 a', .int .u64 b', .int .u64 c', .string p', .string m'] 27)) by go_grown)
  have Z := hid (show w.heap.size + 2 ≤ ((w.alloc (.cells #[.int .i64 o, .int .i64 k, .int .u64 a, .int .u64 b, .int .u64 c, .string p] 36)).alloc (.cells #[.int .u64 a', .int .u64 b', .int .u64 c', .string p', .string m'] 27)).heap.size by simp only [World.size_alloc]; omega)
  obtain ⟨qa, qb⟩ := two_new w (#[.int .i64 o, .int .i64 k, .int .u64 a, .int .u64 b, .int .u64 c, .string p]) (#[.int .u64 a', .int .u64 b', .int .u64 c', .string p', .string m']) 36 27
  have Qa := hid qa
  have Qb := hid qb
  clear qa qb
  go_enter Tryd.func26, Tryd.ntmps26
  go_wp2_with fail
  go_at_call 66
  refine (snAs_exact o 7 k a b c p _).mono ?_
  rintro e w' ⟨rfl, rfl⟩
  go_wp2_with fail
  go_at_call 34
  refine (goodTerm_any 7 k a b c p _ s0).mono ?_
  rintro e w1 ⟨rfl, hb⟩
  replace Qa := hid (((((Blk.new w 36 #[.int .i64 7, .int .i64 k, .int .u64 a, .int .u64 b, .int .u64 c, .string p]).alloc _).alloc _).alloc _).below hb)
  have qb := Blk.new (w.alloc (.cells #[.int .i64 7, .int .i64 k, .int .u64 a, .int .u64 b, .int .u64 c, .string p] 36)) 27 (scells a' b' c' p' m')
  rw [World.size_alloc] at qb
  replace Qb := hid (((qb.alloc _).alloc _).below hb)
  clear qb
  have B' := hid (bt (show Below w.heap.size w _ by go_grown) hb)
  have Z' := hid (show w.heap.size + 2 ≤ w1.heap.size by have := hb.size; simp only [World.size_alloc] at this; omega)
  clear B Z hb
  have B := hid B'.out
  have Z := hid Z'.out
  clear B' Z'
  have xa0 : w1.cell? ⟨w.heap.size, 0, none⟩ = some (.int .i64 7) := Qa.out.cell 0
  have xa1 : w1.cell? ⟨w.heap.size, 1, none⟩ = some (.int .i64 k) := Qa.out.cell 1
  have xa2 : w1.cell? ⟨w.heap.size, 2, none⟩ = some (.int .u64 a) := Qa.out.cell 2
  have xa3 : w1.cell? ⟨w.heap.size, 3, none⟩ = some (.int .u64 b) := Qa.out.cell 3
  have xa4 : w1.cell? ⟨w.heap.size, 4, none⟩ = some (.int .u64 c) := Qa.out.cell 4
  have xa5 : w1.cell? ⟨w.heap.size, 5, none⟩ = some (.string p) := Qa.out.cell 5
  have xb0 : w1.cell? ⟨w.heap.size + 1, 0, none⟩ = some (.int .u64 a') := Qb.out.cell 0
  have xb1 : w1.cell? ⟨w.heap.size + 1, 1, none⟩ = some (.int .u64 b') := Qb.out.cell 1
  have xb2 : w1.cell? ⟨w.heap.size + 1, 2, none⟩ = some (.int .u64 c') := Qb.out.cell 2
  have xb3 : w1.cell? ⟨w.heap.size + 1, 3, none⟩ = some (.string p') := Qb.out.cell 3
  have xb4 : w1.cell? ⟨w.heap.size + 1, 4, none⟩ = some (.string m') := Qb.out.cell 4
  go_wp2_with fail
  go_at_call 19
  refine (svGood1 a' b' c' p' m' s1.1 s1.2 _ _ _ (by simp)).mono ?_
  rintro e w2 ⟨rfl, hb⟩
  replace Qa := hid (((Qa.out.alloc _)).below hb)
  replace Qb := hid (((Qb.out.alloc _)).below hb)
  replace Z := hid (Nat.le_trans (Nat.le_trans Z.out (by first | exact Nat.le_refl _ | omega | (simp only [World.size_alloc, World.size_drew]; omega))) hb.size)
  replace B := hid (bt (B.out.alloc (by have := B.out.size; first | omega | (simp only [World.size_alloc]; omega)) _) hb)
  clear hb
  have xa0 : w2.cell? ⟨w.heap.size, 0, none⟩ = some (.int .i64 7) := Qa.out.cell 0
  have xa1 : w2.cell? ⟨w.heap.size, 1, none⟩ = some (.int .i64 k) := Qa.out.cell 1
  have xa2 : w2.cell? ⟨w.heap.size, 2, none⟩ = some (.int .u64 a) := Qa.out.cell 2
  have xa3 : w2.cell? ⟨w.heap.size, 3, none⟩ = some (.int .u64 b) := Qa.out.cell 3
  have xa4 : w2.cell? ⟨w.heap.size, 4, none⟩ = some (.int .u64 c) := Qa.out.cell 4
  have xa5 : w2.cell? ⟨w.heap.size, 5, none⟩ = some (.string p) := Qa.out.cell 5
  have xb0 : w2.cell? ⟨w.heap.size + 1, 0, none⟩ = some (.int .u64 a') := Qb.out.cell 0
  have xb1 : w2.cell? ⟨w.heap.size + 1, 1, none⟩ = some (.int .u64 b') := Qb.out.cell 1
  have xb2 : w2.cell? ⟨w.heap.size + 1, 2, none⟩ = some (.int .u64 c') := Qb.out.cell 2
  have xb3 : w2.cell? ⟨w.heap.size + 1, 3, none⟩ = some (.string p') := Qb.out.cell 3
  have xb4 : w2.cell? ⟨w.heap.size + 1, 4, none⟩ = some (.string m') := Qb.out.cell 4
  go_wp2_with fail
  go_ret
  exact ⟨ret_b (by simp [hg, hq]), B.out⟩

set_option maxHeartbeats 800000 in
set_option maxRecDepth 100000 in
theorem asked_7_yes (o k : Int) (a b c : Int) (p : ByteArray) (a' b' c' : Int) (p' m' : ByteArray) (w : World) (s0 : p.size ≤ 2147483647) (s1 : p'.size ≤ 2147483647 ∧ m'.size ≤ 2147483647) (hg : goodT 7 k a b c p = true) (hq : verOk ⟨0, 0, 0, p', m'⟩ = true) :
    Calls Tryd.prog 26 #[.agg #[.int .i64 o, .int .i64 k, .int .u64 a, .int .u64 b, .int .u64 c, .string p], .int .i64 7, .agg (scells a' b' c' p' m')] w fun e w' => e = .returned (.bool (goodT 7 k a b c p && verOk ⟨0, 0, 0, p', m'⟩)) ∧ Below w.heap.size w w' := by
  have B := hid (show Below w.heap.size w ((w.alloc (.cells #[.int .i64 o, .int .i64 k, .int .u64 a, .int .u64 b, .int .u64 c, .string p] 36)).alloc (.cells #[.int .u64 a', .int .u64 b', .int .u64 c', .string p', .string m'] 27)) by go_grown)
  have Z := hid (show w.heap.size + 2 ≤ ((w.alloc (.cells #[.int .i64 o, .int .i64 k, .int .u64 a, .int .u64 b, .int .u64 c, .string p] 36)).alloc (.cells #[.int .u64 a', .int .u64 b', .int .u64 c', .string p', .string m'] 27)).heap.size by simp only [World.size_alloc]; omega)
  obtain ⟨qa, qb⟩ := two_new w (#[.int .i64 o, .int .i64 k, .int .u64 a, .int .u64 b, .int .u64 c, .string p]) (#[.int .u64 a', .int .u64 b', .int .u64 c', .string p', .string m']) 36 27
  have Qa := hid qa
  have Qb := hid qb
  clear qa qb
  go_enter Tryd.func26, Tryd.ntmps26
  go_wp2_with fail
  go_at_call 66
  refine (snAs_exact o 7 k a b c p _).mono ?_
  rintro e w' ⟨rfl, rfl⟩
  go_wp2_with fail
  go_at_call 34
  refine (goodTerm_any 7 k a b c p _ s0).mono ?_
  rintro e w1 ⟨rfl, hb⟩
  replace Qa := hid (((((Blk.new w 36 #[.int .i64 7, .int .i64 k, .int .u64 a, .int .u64 b, .int .u64 c, .string p]).alloc _).alloc _).alloc _).below hb)
  have qb := Blk.new (w.alloc (.cells #[.int .i64 7, .int .i64 k, .int .u64 a, .int .u64 b, .int .u64 c, .string p] 36)) 27 (scells a' b' c' p' m')
  rw [World.size_alloc] at qb
  replace Qb := hid (((qb.alloc _).alloc _).below hb)
  clear qb
  have B' := hid (bt (show Below w.heap.size w _ by go_grown) hb)
  have Z' := hid (show w.heap.size + 2 ≤ w1.heap.size by have := hb.size; simp only [World.size_alloc] at this; omega)
  clear B Z hb
  have B := hid B'.out
  have Z := hid Z'.out
  clear B' Z'
  have xa0 : w1.cell? ⟨w.heap.size, 0, none⟩ = some (.int .i64 7) := Qa.out.cell 0
  have xa1 : w1.cell? ⟨w.heap.size, 1, none⟩ = some (.int .i64 k) := Qa.out.cell 1
  have xa2 : w1.cell? ⟨w.heap.size, 2, none⟩ = some (.int .u64 a) := Qa.out.cell 2
  have xa3 : w1.cell? ⟨w.heap.size, 3, none⟩ = some (.int .u64 b) := Qa.out.cell 3
  have xa4 : w1.cell? ⟨w.heap.size, 4, none⟩ = some (.int .u64 c) := Qa.out.cell 4
  have xa5 : w1.cell? ⟨w.heap.size, 5, none⟩ = some (.string p) := Qa.out.cell 5
  have xb0 : w1.cell? ⟨w.heap.size + 1, 0, none⟩ = some (.int .u64 a') := Qb.out.cell 0
  have xb1 : w1.cell? ⟨w.heap.size + 1, 1, none⟩ = some (.int .u64 b') := Qb.out.cell 1
  have xb2 : w1.cell? ⟨w.heap.size + 1, 2, none⟩ = some (.int .u64 c') := Qb.out.cell 2
  have xb3 : w1.cell? ⟨w.heap.size + 1, 3, none⟩ = some (.string p') := Qb.out.cell 3
  have xb4 : w1.cell? ⟨w.heap.size + 1, 4, none⟩ = some (.string m') := Qb.out.cell 4
  go_wp2_with fail
  go_at_call 19
  refine (svGood1 a' b' c' p' m' s1.1 s1.2 _ _ _ (by simp)).mono ?_
  rintro e w2 ⟨rfl, hb⟩
  replace Qa := hid (((Qa.out.alloc _)).below hb)
  replace Qb := hid (((Qb.out.alloc _)).below hb)
  replace Z := hid (Nat.le_trans (Nat.le_trans Z.out (by first | exact Nat.le_refl _ | omega | (simp only [World.size_alloc, World.size_drew]; omega))) hb.size)
  replace B := hid (bt (B.out.alloc (by have := B.out.size; first | omega | (simp only [World.size_alloc]; omega)) _) hb)
  clear hb
  have xa0 : w2.cell? ⟨w.heap.size, 0, none⟩ = some (.int .i64 7) := Qa.out.cell 0
  have xa1 : w2.cell? ⟨w.heap.size, 1, none⟩ = some (.int .i64 k) := Qa.out.cell 1
  have xa2 : w2.cell? ⟨w.heap.size, 2, none⟩ = some (.int .u64 a) := Qa.out.cell 2
  have xa3 : w2.cell? ⟨w.heap.size, 3, none⟩ = some (.int .u64 b) := Qa.out.cell 3
  have xa4 : w2.cell? ⟨w.heap.size, 4, none⟩ = some (.int .u64 c) := Qa.out.cell 4
  have xa5 : w2.cell? ⟨w.heap.size, 5, none⟩ = some (.string p) := Qa.out.cell 5
  have xb0 : w2.cell? ⟨w.heap.size + 1, 0, none⟩ = some (.int .u64 a') := Qb.out.cell 0
  have xb1 : w2.cell? ⟨w.heap.size + 1, 1, none⟩ = some (.int .u64 b') := Qb.out.cell 1
  have xb2 : w2.cell? ⟨w.heap.size + 1, 2, none⟩ = some (.int .u64 c') := Qb.out.cell 2
  have xb3 : w2.cell? ⟨w.heap.size + 1, 3, none⟩ = some (.string p') := Qb.out.cell 3
  have xb4 : w2.cell? ⟨w.heap.size + 1, 4, none⟩ = some (.string m') := Qb.out.cell 4
  go_wp2_with fail
  go_at_call 67
  refine (spoken_7 k a b c p a' b' c' p' m' _).mono ?_
  rintro e w3 ⟨rfl, hb⟩
  replace Qa := hid ((Qa.out).below hb)
  replace Qb := hid ((Qb.out).below hb)
  replace Z := hid (Nat.le_trans (Nat.le_trans Z.out (by first | exact Nat.le_refl _ | omega | (simp only [World.size_alloc, World.size_drew]; omega))) hb.size)
  replace B := hid (bt B.out hb)
  clear hb
  have xa0 : w3.cell? ⟨w.heap.size, 0, none⟩ = some (.int .i64 7) := Qa.out.cell 0
  have xa1 : w3.cell? ⟨w.heap.size, 1, none⟩ = some (.int .i64 k) := Qa.out.cell 1
  have xa2 : w3.cell? ⟨w.heap.size, 2, none⟩ = some (.int .u64 a) := Qa.out.cell 2
  have xa3 : w3.cell? ⟨w.heap.size, 3, none⟩ = some (.int .u64 b) := Qa.out.cell 3
  have xa4 : w3.cell? ⟨w.heap.size, 4, none⟩ = some (.int .u64 c) := Qa.out.cell 4
  have xa5 : w3.cell? ⟨w.heap.size, 5, none⟩ = some (.string p) := Qa.out.cell 5
  have xb0 : w3.cell? ⟨w.heap.size + 1, 0, none⟩ = some (.int .u64 a') := Qb.out.cell 0
  have xb1 : w3.cell? ⟨w.heap.size + 1, 1, none⟩ = some (.int .u64 b') := Qb.out.cell 1
  have xb2 : w3.cell? ⟨w.heap.size + 1, 2, none⟩ = some (.int .u64 c') := Qb.out.cell 2
  have xb3 : w3.cell? ⟨w.heap.size + 1, 3, none⟩ = some (.string p') := Qb.out.cell 3
  have xb4 : w3.cell? ⟨w.heap.size + 1, 4, none⟩ = some (.string m') := Qb.out.cell 4
  go_wp2_with fail
  go_ret
  exact ⟨ret_b (by simp [hg, hq]), B.out⟩

theorem asked_7 (o k : Int) (a b c : Int) (p : ByteArray) (a' b' c' : Int) (p' m' : ByteArray) (w : World) (s0 : p.size ≤ 2147483647) (s1 : p'.size ≤ 2147483647 ∧ m'.size ≤ 2147483647) :
    Calls Tryd.prog 26 #[.agg #[.int .i64 o, .int .i64 k, .int .u64 a, .int .u64 b, .int .u64 c, .string p], .int .i64 7, .agg (scells a' b' c' p' m')] w fun e w' => e = .returned (.bool (goodT 7 k a b c p && verOk ⟨0, 0, 0, p', m'⟩)) ∧ Below w.heap.size w w' := by
  cases hg : goodT 7 k a b c p
  · have q := asked_7_bad o k a b c p a' b' c' p' m' w s0 s1 hg
    rw [hg] at q
    exact q
  · cases hq : verOk ⟨0, 0, 0, p', m'⟩
    · have q := asked_7_no o k a b c p a' b' c' p' m' w s0 s1 hg hq
      rw [hg, hq] at q
      exact q
    · have q := asked_7_yes o k a b c p a' b' c' p' m' w s0 s1 hg hq
      rw [hg, hq] at q
      exact q

end Go.Proofs.YtmlbjcdildaldaaDoor

set_option linter.unusedVariables false
set_option linter.unusedSimpArgs false
namespace Go.Proofs.YtmlbjcdildaldaaDoor
open Go.RowKit

def opM (o : Int) : Nat := (BitVec.ofInt 64 o &&& BitVec.ofInt 64 7).toNat
theorem opM_lt (o : Int) : opM o < 8 := by
  unfold opM
  rw [BitVec.toNat_and]
  have h : (BitVec.ofInt 64 7).toNat = 7 := by decide
  rw [h]
  have := Nat.and_le_right (n := (BitVec.ofInt 64 o).toNat) (m := 7)
  omega
theorem bits7 (o : Int) : bits BinOp.and IntKind.i64 o 7 = (opM o : Int) := by
  have h := opM_lt o
  show IntKind.i64.wrap ((BitVec.ofInt 64 o &&& BitVec.ofInt 64 7).toNat : Int) = _
  unfold opM at h ⊢
  rw [IntKind.wrap_i64]
  omega

theorem operatorM_0 (o : Int) (h : bits BinOp.and IntKind.i64 o 7 = 0) (w : World) : Calls Tryd.prog 99 #[.int .i64 o] w fun e w' => e = .returned (.string ⟨#[61]⟩) ∧ w = w' := by
  go_enter Tryd.func99, Tryd.ntmps99
  go_wp2_with fail
  go_ret
  exact ⟨rfl, rfl⟩
theorem operatorM_1 (o : Int) (h : bits BinOp.and IntKind.i64 o 7 = 1) (w : World) : Calls Tryd.prog 99 #[.int .i64 o] w fun e w' => e = .returned (.string ⟨#[33, 61]⟩) ∧ w = w' := by
  go_enter Tryd.func99, Tryd.ntmps99
  go_wp2_with fail
  go_ret
  exact ⟨rfl, rfl⟩
theorem operatorM_2 (o : Int) (h : bits BinOp.and IntKind.i64 o 7 = 2) (w : World) : Calls Tryd.prog 99 #[.int .i64 o] w fun e w' => e = .returned (.string ⟨#[62]⟩) ∧ w = w' := by
  go_enter Tryd.func99, Tryd.ntmps99
  go_wp2_with fail
  go_ret
  exact ⟨rfl, rfl⟩
theorem operatorM_3 (o : Int) (h : bits BinOp.and IntKind.i64 o 7 = 3) (w : World) : Calls Tryd.prog 99 #[.int .i64 o] w fun e w' => e = .returned (.string ⟨#[60]⟩) ∧ w = w' := by
  go_enter Tryd.func99, Tryd.ntmps99
  go_wp2_with fail
  go_ret
  exact ⟨rfl, rfl⟩
theorem operatorM_4 (o : Int) (h : bits BinOp.and IntKind.i64 o 7 = 4) (w : World) : Calls Tryd.prog 99 #[.int .i64 o] w fun e w' => e = .returned (.string ⟨#[62, 61]⟩) ∧ w = w' := by
  go_enter Tryd.func99, Tryd.ntmps99
  go_wp2_with fail
  go_ret
  exact ⟨rfl, rfl⟩
theorem operatorM_5 (o : Int) (h : bits BinOp.and IntKind.i64 o 7 = 5) (w : World) : Calls Tryd.prog 99 #[.int .i64 o] w fun e w' => e = .returned (.string ⟨#[60, 61]⟩) ∧ w = w' := by
  go_enter Tryd.func99, Tryd.ntmps99
  go_wp2_with fail
  go_ret
  exact ⟨rfl, rfl⟩
theorem operatorM_6 (o : Int) (h : bits BinOp.and IntKind.i64 o 7 = 6) (w : World) : Calls Tryd.prog 99 #[.int .i64 o] w fun e w' => e = .returned (.string ⟨#[126]⟩) ∧ w = w' := by
  go_enter Tryd.func99, Tryd.ntmps99
  go_wp2_with fail
  go_ret
  exact ⟨rfl, rfl⟩
theorem operatorM_7 (o : Int) (h : bits BinOp.and IntKind.i64 o 7 = 7) (w : World) : Calls Tryd.prog 99 #[.int .i64 o] w fun e w' => e = .returned (.string ⟨#[94]⟩) ∧ w = w' := by
  go_enter Tryd.func99, Tryd.ntmps99
  go_wp2_with fail
  go_ret
  exact ⟨rfl, rfl⟩
theorem operatorM (o : Int) (w : World) : Calls Tryd.prog 99 #[.int .i64 o] w fun e w' => e = .returned (.string (opS (opM o))) ∧ w = w' := by
  have h := bits7 o
  have hl := opM_lt o
  generalize opM o = m at *
  obtain rfl | rfl | rfl | rfl | rfl | rfl | rfl | rfl : m = 0 ∨ m = 1 ∨ m = 2 ∨ m = 3 ∨ m = 4 ∨ m = 5 ∨ m = 6 ∨ m = 7 := by omega
  · exact operatorM_0 o h w
  · exact operatorM_1 o h w
  · exact operatorM_2 o h w
  · exact operatorM_3 o h w
  · exact operatorM_4 o h w
  · exact operatorM_5 o h w
  · exact operatorM_6 o h w
  · exact operatorM_7 o h w

set_option maxRecDepth 100000 in
theorem termM_0 (o : Int) (a' b' c' : Int) (p' : ByteArray) (w : World) :
    Calls Tryd.prog 69 #[.agg #[.int .i64 o, .int .i64 0, .int .u64 a', .int .u64 b', .int .u64 c', .string p']] w fun e w' => (∃ h, w.heap.size ≤ h ∧ e = .returned (.agg (zcells (opS (opM o)) h true false false)) ∧ Blk w' h 95 (vcells a' b' c' p' ByteArray.empty)) ∧ Below w.heap.size w w' := by
  go_enter Tryd.func69, Tryd.ntmps69
  go_wp2_with fail
  go_region_held3 (fun w' => w'.cell? ⟨w.heap.size, 0, none⟩ = some (.int .i64 o) ∧ w'.cell? ⟨w.heap.size, 1, none⟩ = some (.int .i64 0) ∧ w'.cell? ⟨w.heap.size, 2, none⟩ = some (.int .u64 a') ∧ w'.cell? ⟨w.heap.size, 3, none⟩ = some (.int .u64 b') ∧ w'.cell? ⟨w.heap.size, 4, none⟩ = some (.int .u64 c') ∧ w'.cell? ⟨w.heap.size, 5, none⟩ = some (.string p')) (simp [go_sem])
    (first | (go_at_call 99; refine (operatorM o _).mono ?_; rintro e w' ⟨rfl, rfl⟩) | (go_at_call 90; refine (zzVersion_any _ _ _ _ _ _).mono ?_; rintro e w' ⟨rfl, rfl⟩))
  all_goals (go_wp2_with fail; go_returns; exact ⟨⟨_, by omega, rfl, blk3 _ _ _⟩, by go_grown⟩)

set_option maxRecDepth 100000 in
theorem termM_1 (o : Int) (a' b' c' : Int) (p' : ByteArray) (w : World) :
    Calls Tryd.prog 69 #[.agg #[.int .i64 o, .int .i64 1, .int .u64 a', .int .u64 b', .int .u64 c', .string p']] w fun e w' => (∃ h, w.heap.size ≤ h ∧ e = .returned (.agg (zcells (opS (opM o)) h true true false)) ∧ Blk w' h 95 (vcells a' b' c' p' ByteArray.empty)) ∧ Below w.heap.size w w' := by
  go_enter Tryd.func69, Tryd.ntmps69
  go_wp2_with fail
  go_region_held3 (fun w' => w'.cell? ⟨w.heap.size, 0, none⟩ = some (.int .i64 o) ∧ w'.cell? ⟨w.heap.size, 1, none⟩ = some (.int .i64 1) ∧ w'.cell? ⟨w.heap.size, 2, none⟩ = some (.int .u64 a') ∧ w'.cell? ⟨w.heap.size, 3, none⟩ = some (.int .u64 b') ∧ w'.cell? ⟨w.heap.size, 4, none⟩ = some (.int .u64 c') ∧ w'.cell? ⟨w.heap.size, 5, none⟩ = some (.string p')) (simp [go_sem])
    (first | (go_at_call 99; refine (operatorM o _).mono ?_; rintro e w' ⟨rfl, rfl⟩) | (go_at_call 90; refine (zzVersion_any _ _ _ _ _ _).mono ?_; rintro e w' ⟨rfl, rfl⟩))
  all_goals (go_wp2_with fail; go_returns; exact ⟨⟨_, by omega, rfl, blk3 _ _ _⟩, by go_grown⟩)

set_option maxRecDepth 100000 in
theorem termM_2 (o : Int) (a' b' c' : Int) (p' : ByteArray) (w : World) :
    Calls Tryd.prog 69 #[.agg #[.int .i64 o, .int .i64 2, .int .u64 a', .int .u64 b', .int .u64 c', .string p']] w fun e w' => (∃ h, w.heap.size ≤ h ∧ e = .returned (.agg (zcells (opS (opM o)) h true false true)) ∧ Blk w' h 95 (vcells a' b' c' p' ByteArray.empty)) ∧ Below w.heap.size w w' := by
  go_enter Tryd.func69, Tryd.ntmps69
  go_wp2_with fail
  go_region_held3 (fun w' => w'.cell? ⟨w.heap.size, 0, none⟩ = some (.int .i64 o) ∧ w'.cell? ⟨w.heap.size, 1, none⟩ = some (.int .i64 2) ∧ w'.cell? ⟨w.heap.size, 2, none⟩ = some (.int .u64 a') ∧ w'.cell? ⟨w.heap.size, 3, none⟩ = some (.int .u64 b') ∧ w'.cell? ⟨w.heap.size, 4, none⟩ = some (.int .u64 c') ∧ w'.cell? ⟨w.heap.size, 5, none⟩ = some (.string p')) (simp [go_sem])
    (first | (go_at_call 99; refine (operatorM o _).mono ?_; rintro e w' ⟨rfl, rfl⟩) | (go_at_call 90; refine (zzVersion_any _ _ _ _ _ _).mono ?_; rintro e w' ⟨rfl, rfl⟩))
  all_goals (go_wp2_with fail; go_returns; exact ⟨⟨_, by omega, rfl, blk3 _ _ _⟩, by go_grown⟩)

set_option maxRecDepth 100000 in
theorem termM_3 (o : Int) (a' b' c' : Int) (p' : ByteArray) (w : World) :
    Calls Tryd.prog 69 #[.agg #[.int .i64 o, .int .i64 3, .int .u64 a', .int .u64 b', .int .u64 c', .string p']] w fun e w' => (∃ h, w.heap.size ≤ h ∧ e = .returned (.agg (zcells (opS (opM o)) h false false false)) ∧ Blk w' h 95 (vcells a' b' c' p' ByteArray.empty)) ∧ Below w.heap.size w w' := by
  go_enter Tryd.func69, Tryd.ntmps69
  go_wp2_with fail
  go_region_held3 (fun w' => w'.cell? ⟨w.heap.size, 0, none⟩ = some (.int .i64 o) ∧ w'.cell? ⟨w.heap.size, 1, none⟩ = some (.int .i64 3) ∧ w'.cell? ⟨w.heap.size, 2, none⟩ = some (.int .u64 a') ∧ w'.cell? ⟨w.heap.size, 3, none⟩ = some (.int .u64 b') ∧ w'.cell? ⟨w.heap.size, 4, none⟩ = some (.int .u64 c') ∧ w'.cell? ⟨w.heap.size, 5, none⟩ = some (.string p')) (simp [go_sem])
    (first | (go_at_call 99; refine (operatorM o _).mono ?_; rintro e w' ⟨rfl, rfl⟩) | (go_at_call 90; refine (zzVersion_any _ _ _ _ _ _).mono ?_; rintro e w' ⟨rfl, rfl⟩))
  all_goals (go_wp2_with fail; go_returns; exact ⟨⟨_, by omega, rfl, blk3 _ _ _⟩, by go_grown⟩)

theorem termM_any (o : Int) (k : Nat) (hk : k ≤ 3) (a' b' c' : Int) (p' : ByteArray) (w : World) :
    Calls Tryd.prog 69 #[.agg #[.int .i64 o, .int .i64 k, .int .u64 a', .int .u64 b', .int .u64 c', .string p']] w fun e w' => (∃ h, w.heap.size ≤ h ∧ e = .returned (.agg (zcells (opS (opM o)) h (decide (k < 3)) (k == 1) (k == 2))) ∧ Blk w' h 95 (vcells a' b' c' p' ByteArray.empty)) ∧ Below w.heap.size w w' := by
  obtain rfl | rfl | rfl | rfl : k = 0 ∨ k = 1 ∨ k = 2 ∨ k = 3 := by omega
  · exact termM_0 o a' b' c' p' w
  · exact termM_1 o a' b' c' p' w
  · exact termM_2 o a' b' c' p' w
  · exact termM_3 o a' b' c' p' w

theorem keepTM {o : Int} {k : Nat} {a b c : Int} {p m : ByteArray} {a' b' c' : Int} {p' : ByteArray} {w w' : World} (hb : Below ((w.alloc (.cells #[.int .i64 o, .int .i64 (k : Nat), .int .u64 a', .int .u64 b', .int .u64 c', .string p'] 36)).alloc (.cells (scells a b c p m) 27)).heap.size ((w.alloc (.cells #[.int .i64 o, .int .i64 (k : Nat), .int .u64 a', .int .u64 b', .int .u64 c', .string p'] 36)).alloc (.cells (scells a b c p m) 27)) w') : w'.cell? ⟨w.heap.size, 0, none⟩ = some (.int .i64 o) ∧ w'.cell? ⟨w.heap.size, 1, none⟩ = some (.int .i64 (k : Nat)) ∧ w'.cell? ⟨w.heap.size, 2, none⟩ = some (.int .u64 a') ∧ w'.cell? ⟨w.heap.size, 3, none⟩ = some (.int .u64 b') ∧ w'.cell? ⟨w.heap.size, 4, none⟩ = some (.int .u64 c') ∧ w'.cell? ⟨w.heap.size, 5, none⟩ = some (.string p') ∧ w'.cell? ⟨w.heap.size + 1, 0, none⟩ = some (.int .u64 a) ∧ w'.cell? ⟨w.heap.size + 1, 1, none⟩ = some (.int .u64 b) ∧ w'.cell? ⟨w.heap.size + 1, 2, none⟩ = some (.int .u64 c) ∧ w'.cell? ⟨w.heap.size + 1, 3, none⟩ = some (.string p) ∧ w'.cell? ⟨w.heap.size + 1, 4, none⟩ = some (.string m) := by
  have h1 : Blk ((w.alloc (.cells #[.int .i64 o, .int .i64 (k : Nat), .int .u64 a', .int .u64 b', .int .u64 c', .string p'] 36)).alloc (.cells (scells a b c p m) 27)) w.heap.size 36 #[.int .i64 o, .int .i64 (k : Nat), .int .u64 a', .int .u64 b', .int .u64 c', .string p'] := (Blk.new w _ _).alloc _
  have h2 : Blk ((w.alloc (.cells #[.int .i64 o, .int .i64 (k : Nat), .int .u64 a', .int .u64 b', .int .u64 c', .string p'] 36)).alloc (.cells (scells a b c p m) 27)) (w.heap.size + 1) 27 (scells a b c p m) := by
    have := Blk.new (w.alloc (.cells #[.int .i64 o, .int .i64 (k : Nat), .int .u64 a', .int .u64 b', .int .u64 c', .string p'] 36)) 27 (scells a b c p m)
    rwa [World.size_alloc] at this
  have k1 := h1.below hb
  have k2 := h2.below hb
  exact ⟨k1.cell 0, k1.cell 1, k1.cell 2, k1.cell 3, k1.cell 4, k1.cell 5, k2.cell 0, k2.cell 1, k2.cell 2, k2.cell 3, k2.cell 4⟩

set_option maxHeartbeats 800000 in
set_option maxRecDepth 100000 in
theorem equalHoldsM (o : Int) (k : Nat) (hk : k ≤ 3) (a b c : Int) (p m : ByteArray) (a' b' c' : Int) (p' : ByteArray) (pre r : Bool) (w : World) (hv : Vars w)
    (hr : ∀ g h, OpIs 103 g h a b c p m a' b' c' p' ByteArray.empty (opS (opM o)) ByteArray.empty (k == 1) (decide (k < 3)) (k == 2) pre r) :
    Calls Tryd.prog 29 #[.agg #[.int .i64 o, .int .i64 (k : Nat), .int .u64 a', .int .u64 b', .int .u64 c', .string p'], .agg (scells a b c p m), .bool pre] w fun e w' => e = .returned (.bool r) ∧ Below w.heap.size w w' := by
  have HR := hid hr
  have HV := hid hv
  have HK := hid hk
  clear hr hv hk
  have BW : Below w.heap.size w ((w.alloc (.cells #[.int .i64 o, .int .i64 (k : Nat), .int .u64 a', .int .u64 b', .int .u64 c', .string p'] 36)).alloc (.cells (scells a b c p m) 27)) := by go_grown
  have HW := hid BW
  clear BW
  go_enter Tryd.func29, Tryd.ntmps29
  go_wp2_with fail
  go_region_held3 (fun w' => w'.cell? ⟨w.heap.size, 0, none⟩ = some (.int .i64 o) ∧ w'.cell? ⟨w.heap.size, 1, none⟩ = some (.int .i64 (k : Nat)) ∧ w'.cell? ⟨w.heap.size, 2, none⟩ = some (.int .u64 a') ∧ w'.cell? ⟨w.heap.size, 3, none⟩ = some (.int .u64 b') ∧ w'.cell? ⟨w.heap.size, 4, none⟩ = some (.int .u64 c') ∧ w'.cell? ⟨w.heap.size, 5, none⟩ = some (.string p') ∧ w'.cell? ⟨w.heap.size + 1, 0, none⟩ = some (.int .u64 a) ∧ w'.cell? ⟨w.heap.size + 1, 1, none⟩ = some (.int .u64 b) ∧ w'.cell? ⟨w.heap.size + 1, 2, none⟩ = some (.int .u64 c) ∧ w'.cell? ⟨w.heap.size + 1, 3, none⟩ = some (.string p) ∧ w'.cell? ⟨w.heap.size + 1, 4, none⟩ = some (.string m)) (first | (refine keepTM ?_; exact B3.out; done) | (refine keepTM ?_; exact B1.out; done) | (refine keepTM (bt B1.out ?_); go_grown; done) | (refine keepTM ?_; go_grown; done))
    (first
      | (go_at_call 69; refine (termM_any o k HK.out a' b' c' p' _).mono ?_; rintro e w1 ⟨⟨h1, hh, rfl, hB1⟩, hb1⟩; have B1 := hid (bt (Below.drew (Below.refl ((w.alloc (.cells #[.int .i64 o, .int .i64 (k : Nat), .int .u64 a', .int .u64 b', .int .u64 c', .string p'] 36)).alloc (.cells (scells a b c p m) 27)).heap.size _)) hb1); have N1 := hid hB1; clear hb1 hB1 hh)
      | (go_at_call 59; refine (version_any a b c p m _).mono ?_; rintro e w2 ⟨rfl, rfl⟩)
      | (go_at_call 71; refine (zz_0 _ h1 a b c p m a' b' c' p' ByteArray.empty _ _ _ _ pre r _ ?_ ?_ ?_ ?_ ?_).mono ?_; (exact ver_new _ _ _ _); (exact (N1.out.alloc _).alloc _); (have := N1.out.lt; omega); (exact HV.out.below (bt HW.out (bt B1.out (by go_grown)))); (exact HR.out _ _); rintro e w3 ⟨⟨er, rfl⟩, hb3⟩; have B3 := hid (bt (bt B1.out (by go_grown)) hb3); clear hb3))
  all_goals (go_wp2_with fail; go_ret; exact ⟨rfl, bt HW.out B3.out⟩)

set_option maxHeartbeats 800000 in
set_option maxRecDepth 100000 in
theorem leastHoldsM (o : Int) (k : Nat) (hk : k ≤ 3) (a b c : Int) (p m : ByteArray) (a' b' c' : Int) (p' : ByteArray) (pre r : Bool) (w : World) (hv : Vars w)
    (hr : ∀ g h, OpIs 104 g h a b c p m a' b' c' p' ByteArray.empty (opS (opM o)) ByteArray.empty (k == 1) (decide (k < 3)) (k == 2) pre r) :
    Calls Tryd.prog 30 #[.agg #[.int .i64 o, .int .i64 (k : Nat), .int .u64 a', .int .u64 b', .int .u64 c', .string p'], .agg (scells a b c p m), .bool pre] w fun e w' => e = .returned (.bool r) ∧ Below w.heap.size w w' := by
  have HR := hid hr
  have HV := hid hv
  have HK := hid hk
  clear hr hv hk
  have BW : Below w.heap.size w ((w.alloc (.cells #[.int .i64 o, .int .i64 (k : Nat), .int .u64 a', .int .u64 b', .int .u64 c', .string p'] 36)).alloc (.cells (scells a b c p m) 27)) := by go_grown
  have HW := hid BW
  clear BW
  go_enter Tryd.func30, Tryd.ntmps30
  go_wp2_with fail
  go_region_held3 (fun w' => w'.cell? ⟨w.heap.size, 0, none⟩ = some (.int .i64 o) ∧ w'.cell? ⟨w.heap.size, 1, none⟩ = some (.int .i64 (k : Nat)) ∧ w'.cell? ⟨w.heap.size, 2, none⟩ = some (.int .u64 a') ∧ w'.cell? ⟨w.heap.size, 3, none⟩ = some (.int .u64 b') ∧ w'.cell? ⟨w.heap.size, 4, none⟩ = some (.int .u64 c') ∧ w'.cell? ⟨w.heap.size, 5, none⟩ = some (.string p') ∧ w'.cell? ⟨w.heap.size + 1, 0, none⟩ = some (.int .u64 a) ∧ w'.cell? ⟨w.heap.size + 1, 1, none⟩ = some (.int .u64 b) ∧ w'.cell? ⟨w.heap.size + 1, 2, none⟩ = some (.int .u64 c) ∧ w'.cell? ⟨w.heap.size + 1, 3, none⟩ = some (.string p) ∧ w'.cell? ⟨w.heap.size + 1, 4, none⟩ = some (.string m)) (first | (refine keepTM ?_; exact B3.out; done) | (refine keepTM ?_; exact B1.out; done) | (refine keepTM (bt B1.out ?_); go_grown; done) | (refine keepTM ?_; go_grown; done))
    (first
      | (go_at_call 69; refine (termM_any o k HK.out a' b' c' p' _).mono ?_; rintro e w1 ⟨⟨h1, hh, rfl, hB1⟩, hb1⟩; have B1 := hid (bt (Below.drew (Below.refl ((w.alloc (.cells #[.int .i64 o, .int .i64 (k : Nat), .int .u64 a', .int .u64 b', .int .u64 c', .string p'] 36)).alloc (.cells (scells a b c p m) 27)).heap.size _)) hb1); have N1 := hid hB1; clear hb1 hB1 hh)
      | (go_at_call 59; refine (version_any a b c p m _).mono ?_; rintro e w2 ⟨rfl, rfl⟩)
      | (go_at_call 72; refine (zz_4 _ h1 a b c p m a' b' c' p' ByteArray.empty _ _ _ _ pre r _ ?_ ?_ ?_ ?_ ?_).mono ?_; (exact ver_new _ _ _ _); (exact (N1.out.alloc _).alloc _); (have := N1.out.lt; omega); (exact HV.out.below (bt HW.out (bt B1.out (by go_grown)))); (exact HR.out _ _); rintro e w3 ⟨⟨er, rfl⟩, hb3⟩; have B3 := hid (bt (bt B1.out (by go_grown)) hb3); clear hb3))
  all_goals (go_wp2_with fail; go_ret; exact ⟨rfl, bt HW.out B3.out⟩)

set_option maxHeartbeats 800000 in
set_option maxRecDepth 100000 in
theorem caretHoldsM (o : Int) (k : Nat) (hk : k ≤ 3) (a b c : Int) (p m : ByteArray) (a' b' c' : Int) (p' : ByteArray) (pre r : Bool) (w : World) (hv : Vars w)
    (hr : ∀ g h, OpIs 97 g h a b c p m a' b' c' p' ByteArray.empty (opS (opM o)) ByteArray.empty (k == 1) (decide (k < 3)) (k == 2) pre r) :
    Calls Tryd.prog 27 #[.agg #[.int .i64 o, .int .i64 (k : Nat), .int .u64 a', .int .u64 b', .int .u64 c', .string p'], .agg (scells a b c p m), .bool pre] w fun e w' => e = .returned (.bool r) ∧ Below w.heap.size w w' := by
  have HR := hid hr
  have HV := hid hv
  have HK := hid hk
  clear hr hv hk
  have BW : Below w.heap.size w ((w.alloc (.cells #[.int .i64 o, .int .i64 (k : Nat), .int .u64 a', .int .u64 b', .int .u64 c', .string p'] 36)).alloc (.cells (scells a b c p m) 27)) := by go_grown
  have HW := hid BW
  clear BW
  go_enter Tryd.func27, Tryd.ntmps27
  go_wp2_with fail
  go_region_held3 (fun w' => w'.cell? ⟨w.heap.size, 0, none⟩ = some (.int .i64 o) ∧ w'.cell? ⟨w.heap.size, 1, none⟩ = some (.int .i64 (k : Nat)) ∧ w'.cell? ⟨w.heap.size, 2, none⟩ = some (.int .u64 a') ∧ w'.cell? ⟨w.heap.size, 3, none⟩ = some (.int .u64 b') ∧ w'.cell? ⟨w.heap.size, 4, none⟩ = some (.int .u64 c') ∧ w'.cell? ⟨w.heap.size, 5, none⟩ = some (.string p') ∧ w'.cell? ⟨w.heap.size + 1, 0, none⟩ = some (.int .u64 a) ∧ w'.cell? ⟨w.heap.size + 1, 1, none⟩ = some (.int .u64 b) ∧ w'.cell? ⟨w.heap.size + 1, 2, none⟩ = some (.int .u64 c) ∧ w'.cell? ⟨w.heap.size + 1, 3, none⟩ = some (.string p) ∧ w'.cell? ⟨w.heap.size + 1, 4, none⟩ = some (.string m)) (first | (refine keepTM ?_; exact B3.out; done) | (refine keepTM ?_; exact B1.out; done) | (refine keepTM (bt B1.out ?_); go_grown; done) | (refine keepTM ?_; go_grown; done))
    (first
      | (go_at_call 69; refine (termM_any o k HK.out a' b' c' p' _).mono ?_; rintro e w1 ⟨⟨h1, hh, rfl, hB1⟩, hb1⟩; have B1 := hid (bt (Below.drew (Below.refl ((w.alloc (.cells #[.int .i64 o, .int .i64 (k : Nat), .int .u64 a', .int .u64 b', .int .u64 c', .string p'] 36)).alloc (.cells (scells a b c p m) 27)).heap.size _)) hb1); have N1 := hid hB1; clear hb1 hB1 hh)
      | (go_at_call 59; refine (version_any a b c p m _).mono ?_; rintro e w2 ⟨rfl, rfl⟩)
      | (go_at_call 68; refine (zz_7 _ h1 a b c p m a' b' c' p' ByteArray.empty _ _ _ _ pre r _ ?_ ?_ ?_ ?_ ?_).mono ?_; (exact ver_new _ _ _ _); (exact (N1.out.alloc _).alloc _); (have := N1.out.lt; omega); (exact HV.out.below (bt HW.out (bt B1.out (by go_grown)))); (exact HR.out _ _); rintro e w3 ⟨⟨er, rfl⟩, hb3⟩; have B3 := hid (bt (bt B1.out (by go_grown)) hb3); clear hb3))
  all_goals (go_wp2_with fail; go_ret; exact ⟨rfl, bt HW.out B3.out⟩)

end Go.Proofs.YtmlbjcdildaldaaDoor
