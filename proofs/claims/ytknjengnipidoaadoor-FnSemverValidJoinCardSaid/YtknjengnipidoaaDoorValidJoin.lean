/- The law FnSemverValidJoin: two texts with a dot between them are valid just if both are. Joined. -/
import Derived.Test.YtknjengnipidoaaDoorValidLaw
set_option linter.unusedVariables false
set_option linter.unusedSimpArgs false
namespace Go.Proofs.YtknjengnipidoaaDoor
open Go.RowKit

theorem cut_join (c : UInt8) (r : List UInt8) : ∀ l : List UInt8, cut c (l ++ c :: r) = cut c l ++ cut c r
  | [] => by simp [cut]
  | x :: l => by
    have ih := cut_join c r l
    show cut c (x :: (l ++ c :: r)) = cut c (x :: l) ++ cut c r
    by_cases h : x = c
    · rw [h, cut_same, cut_same, ih]; rfl
    · rw [cut_other c x _ h, cut_other c x _ h, ih]
      cases e : cut c l with
      | nil => exact absurd e (cut_ne c l)
      | cons p t => rfl
theorem dot_list : (⟨#[46]⟩ : ByteArray).toList = [46] := mk_list _
theorem join_all (f : List UInt8 → Bool) (a b : ByteArray) : (cut 46 (a ++ ⟨#[46]⟩ ++ b).toList).all f = ((cut 46 a.toList).all f && (cut 46 b.toList).all f) := by
  rw [app_list, app_list, dot_list, List.append_assoc, show [46] ++ b.toList = 46 :: b.toList from rfl, cut_join, List.all_append]
def zeroB : ByteArray := ⟨#[48, 46, 48, 48]⟩
theorem zero_meta : (cut 46 zeroB.toList).all validId = true := by
  rw [show zeroB.toList = [48, 46, 48, 48] from mk_list _]; decide

set_option maxHeartbeats 800000 in
set_option maxRecDepth 100000 in
theorem join_f_f (a b : ByteArray) (w : World) (z0 : ¬ (2147483647 : Int) < (a.size : Int)) (z1 : ¬ (2147483647 : Int) < (b.size : Int)) (ea : a.toList.isEmpty = false) (eb : b.toList.isEmpty = false) (c1 : ¬ 9223372036854775807 < a.size + 1) (c2 : ¬ 9223372036854775807 < a.size + 1 + b.size)
    (hsh : ∀ (W : World) (c : Nat), Calls Tryd.prog 7 #[.slice (some ⟨W.heap.size, 0, none⟩) 2 c] (W.alloc (.cells #[.string a, .string b] 9)) fun e w' => e = .returned (.bool true) ∧ W.alloc (.cells #[.string a, .string b] 9) = w') (hv : Vars w) (hm : VarsM w)
    (hT1 : Hid (∀ w, Vars w → VarsM w → Calls Tryd.prog 8 #[.string (a ++ ⟨#[46]⟩ ++ b)] w fun e w' => e = .returned (.bool false) ∧ Below w.heap.size w w')) (hA1 : Hid (∀ w, Vars w → VarsM w → Calls Tryd.prog 8 #[.string a] w fun e w' => e = .returned (.bool false) ∧ Below w.heap.size w w')) (hT2 : Hid (∀ w, Vars w → VarsM w → Calls Tryd.prog 10 #[.string (a ++ ⟨#[46]⟩ ++ b)] w fun e w' => e = .returned (.bool false) ∧ Below w.heap.size w w')) (hA2 : Hid (∀ w, Vars w → VarsM w → Calls Tryd.prog 10 #[.string a] w fun e w' => e = .returned (.bool false) ∧ Below w.heap.size w w')) (hZ2 : Hid (∀ w, Vars w → VarsM w → Calls Tryd.prog 10 #[.string zeroB] w fun e w' => e = .returned (.bool true) ∧ Below w.heap.size w w')) : Calls Tryd.prog 4 #[.string a, .string b] w fun e w' => e = .returned (.bool true) ∧ Below w.heap.size w w' := by
  have hb1 : Below w.heap.size w (w.alloc (.cells #[.string a, .string b] 9)) := (Below.refl _ _).alloc (Nat.le_refl _) _
  have HV := hid (hv.below hb1)
  have HM := hid (hm.below hb1)
  have HB := hid hb1
  clear hb1 hv hm
  go_enter Tryd.func4, Tryd.ntmps4
  go_wp2_with (go_at_call 7; refine (hsh _ _).mono ?_; rintro e w' ⟨rfl, rfl⟩)
  go_at_call 8
  refine (hT1.out _ HV.out HM.out).mono ?_
  rintro e u0 ⟨rfl, hb⟩
  replace HV := hid (HV.out.below hb)
  replace HM := hid (HM.out.below hb)
  replace HB := hid (bt HB.out hb)
  clear hb
  go_wp2_with fail
  go_at_call 8
  refine (hA1.out _ HV.out HM.out).mono ?_
  rintro e u1 ⟨rfl, hb⟩
  replace HV := hid (HV.out.below hb)
  replace HM := hid (HM.out.below hb)
  replace HB := hid (bt HB.out hb)
  clear hb
  go_wp2_with fail
  go_at_call 10
  refine (hT2.out _ HV.out HM.out).mono ?_
  rintro e u2 ⟨rfl, hb⟩
  replace HV := hid (HV.out.below hb)
  replace HM := hid (HM.out.below hb)
  replace HB := hid (bt HB.out hb)
  clear hb
  go_wp2_with fail
  go_at_call 10
  refine (hA2.out _ HV.out HM.out).mono ?_
  rintro e u3 ⟨rfl, hb⟩
  replace HV := hid (HV.out.below hb)
  replace HM := hid (HM.out.below hb)
  replace HB := hid (bt HB.out hb)
  clear hb
  go_wp2_with fail
  go_at_call 10
  refine (hZ2.out _ HV.out HM.out).mono ?_
  rintro e u4 ⟨rfl, hb⟩
  replace HV := hid (HV.out.below hb)
  replace HM := hid (HM.out.below hb)
  replace HB := hid (bt HB.out hb)
  clear hb
  go_wp2_with fail
  go_ret
  exact ⟨rfl, HB.out⟩

set_option maxHeartbeats 800000 in
set_option maxRecDepth 100000 in
theorem join_f_tf (a b : ByteArray) (w : World) (z0 : ¬ (2147483647 : Int) < (a.size : Int)) (z1 : ¬ (2147483647 : Int) < (b.size : Int)) (ea : a.toList.isEmpty = false) (eb : b.toList.isEmpty = false) (c1 : ¬ 9223372036854775807 < a.size + 1) (c2 : ¬ 9223372036854775807 < a.size + 1 + b.size)
    (hsh : ∀ (W : World) (c : Nat), Calls Tryd.prog 7 #[.slice (some ⟨W.heap.size, 0, none⟩) 2 c] (W.alloc (.cells #[.string a, .string b] 9)) fun e w' => e = .returned (.bool true) ∧ W.alloc (.cells #[.string a, .string b] 9) = w') (hv : Vars w) (hm : VarsM w)
    (hT1 : Hid (∀ w, Vars w → VarsM w → Calls Tryd.prog 8 #[.string (a ++ ⟨#[46]⟩ ++ b)] w fun e w' => e = .returned (.bool false) ∧ Below w.heap.size w w')) (hA1 : Hid (∀ w, Vars w → VarsM w → Calls Tryd.prog 8 #[.string a] w fun e w' => e = .returned (.bool false) ∧ Below w.heap.size w w')) (hT2 : Hid (∀ w, Vars w → VarsM w → Calls Tryd.prog 10 #[.string (a ++ ⟨#[46]⟩ ++ b)] w fun e w' => e = .returned (.bool false) ∧ Below w.heap.size w w')) (hA2 : Hid (∀ w, Vars w → VarsM w → Calls Tryd.prog 10 #[.string a] w fun e w' => e = .returned (.bool true) ∧ Below w.heap.size w w')) (hB2 : Hid (∀ w, Vars w → VarsM w → Calls Tryd.prog 10 #[.string b] w fun e w' => e = .returned (.bool false) ∧ Below w.heap.size w w')) (hZ2 : Hid (∀ w, Vars w → VarsM w → Calls Tryd.prog 10 #[.string zeroB] w fun e w' => e = .returned (.bool true) ∧ Below w.heap.size w w')) : Calls Tryd.prog 4 #[.string a, .string b] w fun e w' => e = .returned (.bool true) ∧ Below w.heap.size w w' := by
  have hb1 : Below w.heap.size w (w.alloc (.cells #[.string a, .string b] 9)) := (Below.refl _ _).alloc (Nat.le_refl _) _
  have HV := hid (hv.below hb1)
  have HM := hid (hm.below hb1)
  have HB := hid hb1
  clear hb1 hv hm
  go_enter Tryd.func4, Tryd.ntmps4
  go_wp2_with (go_at_call 7; refine (hsh _ _).mono ?_; rintro e w' ⟨rfl, rfl⟩)
  go_at_call 8
  refine (hT1.out _ HV.out HM.out).mono ?_
  rintro e u0 ⟨rfl, hb⟩
  replace HV := hid (HV.out.below hb)
  replace HM := hid (HM.out.below hb)
  replace HB := hid (bt HB.out hb)
  clear hb
  go_wp2_with fail
  go_at_call 8
  refine (hA1.out _ HV.out HM.out).mono ?_
  rintro e u1 ⟨rfl, hb⟩
  replace HV := hid (HV.out.below hb)
  replace HM := hid (HM.out.below hb)
  replace HB := hid (bt HB.out hb)
  clear hb
  go_wp2_with fail
  go_at_call 10
  refine (hT2.out _ HV.out HM.out).mono ?_
  rintro e u2 ⟨rfl, hb⟩
  replace HV := hid (HV.out.below hb)
  replace HM := hid (HM.out.below hb)
  replace HB := hid (bt HB.out hb)
  clear hb
  go_wp2_with fail
  go_at_call 10
  refine (hA2.out _ HV.out HM.out).mono ?_
  rintro e u3 ⟨rfl, hb⟩
  replace HV := hid (HV.out.below hb)
  replace HM := hid (HM.out.below hb)
  replace HB := hid (bt HB.out hb)
  clear hb
  go_wp2_with fail
  go_at_call 10
  refine (hB2.out _ HV.out HM.out).mono ?_
  rintro e u4 ⟨rfl, hb⟩
  replace HV := hid (HV.out.below hb)
  replace HM := hid (HM.out.below hb)
  replace HB := hid (bt HB.out hb)
  clear hb
  go_wp2_with fail
  go_at_call 10
  refine (hZ2.out _ HV.out HM.out).mono ?_
  rintro e u5 ⟨rfl, hb⟩
  replace HV := hid (HV.out.below hb)
  replace HM := hid (HM.out.below hb)
  replace HB := hid (bt HB.out hb)
  clear hb
  go_wp2_with fail
  go_ret
  exact ⟨rfl, HB.out⟩

set_option maxHeartbeats 800000 in
set_option maxRecDepth 100000 in
theorem join_f_tt (a b : ByteArray) (w : World) (z0 : ¬ (2147483647 : Int) < (a.size : Int)) (z1 : ¬ (2147483647 : Int) < (b.size : Int)) (ea : a.toList.isEmpty = false) (eb : b.toList.isEmpty = false) (c1 : ¬ 9223372036854775807 < a.size + 1) (c2 : ¬ 9223372036854775807 < a.size + 1 + b.size)
    (hsh : ∀ (W : World) (c : Nat), Calls Tryd.prog 7 #[.slice (some ⟨W.heap.size, 0, none⟩) 2 c] (W.alloc (.cells #[.string a, .string b] 9)) fun e w' => e = .returned (.bool true) ∧ W.alloc (.cells #[.string a, .string b] 9) = w') (hv : Vars w) (hm : VarsM w)
    (hT1 : Hid (∀ w, Vars w → VarsM w → Calls Tryd.prog 8 #[.string (a ++ ⟨#[46]⟩ ++ b)] w fun e w' => e = .returned (.bool false) ∧ Below w.heap.size w w')) (hA1 : Hid (∀ w, Vars w → VarsM w → Calls Tryd.prog 8 #[.string a] w fun e w' => e = .returned (.bool false) ∧ Below w.heap.size w w')) (hT2 : Hid (∀ w, Vars w → VarsM w → Calls Tryd.prog 10 #[.string (a ++ ⟨#[46]⟩ ++ b)] w fun e w' => e = .returned (.bool true) ∧ Below w.heap.size w w')) (hA2 : Hid (∀ w, Vars w → VarsM w → Calls Tryd.prog 10 #[.string a] w fun e w' => e = .returned (.bool true) ∧ Below w.heap.size w w')) (hB2 : Hid (∀ w, Vars w → VarsM w → Calls Tryd.prog 10 #[.string b] w fun e w' => e = .returned (.bool true) ∧ Below w.heap.size w w')) (hZ2 : Hid (∀ w, Vars w → VarsM w → Calls Tryd.prog 10 #[.string zeroB] w fun e w' => e = .returned (.bool true) ∧ Below w.heap.size w w')) : Calls Tryd.prog 4 #[.string a, .string b] w fun e w' => e = .returned (.bool true) ∧ Below w.heap.size w w' := by
  have hb1 : Below w.heap.size w (w.alloc (.cells #[.string a, .string b] 9)) := (Below.refl _ _).alloc (Nat.le_refl _) _
  have HV := hid (hv.below hb1)
  have HM := hid (hm.below hb1)
  have HB := hid hb1
  clear hb1 hv hm
  go_enter Tryd.func4, Tryd.ntmps4
  go_wp2_with (go_at_call 7; refine (hsh _ _).mono ?_; rintro e w' ⟨rfl, rfl⟩)
  go_at_call 8
  refine (hT1.out _ HV.out HM.out).mono ?_
  rintro e u0 ⟨rfl, hb⟩
  replace HV := hid (HV.out.below hb)
  replace HM := hid (HM.out.below hb)
  replace HB := hid (bt HB.out hb)
  clear hb
  go_wp2_with fail
  go_at_call 8
  refine (hA1.out _ HV.out HM.out).mono ?_
  rintro e u1 ⟨rfl, hb⟩
  replace HV := hid (HV.out.below hb)
  replace HM := hid (HM.out.below hb)
  replace HB := hid (bt HB.out hb)
  clear hb
  go_wp2_with fail
  go_at_call 10
  refine (hT2.out _ HV.out HM.out).mono ?_
  rintro e u2 ⟨rfl, hb⟩
  replace HV := hid (HV.out.below hb)
  replace HM := hid (HM.out.below hb)
  replace HB := hid (bt HB.out hb)
  clear hb
  go_wp2_with fail
  go_at_call 10
  refine (hA2.out _ HV.out HM.out).mono ?_
  rintro e u3 ⟨rfl, hb⟩
  replace HV := hid (HV.out.below hb)
  replace HM := hid (HM.out.below hb)
  replace HB := hid (bt HB.out hb)
  clear hb
  go_wp2_with fail
  go_at_call 10
  refine (hB2.out _ HV.out HM.out).mono ?_
  rintro e u4 ⟨rfl, hb⟩
  replace HV := hid (HV.out.below hb)
  replace HM := hid (HM.out.below hb)
  replace HB := hid (bt HB.out hb)
  clear hb
  go_wp2_with fail
  go_at_call 10
  refine (hZ2.out _ HV.out HM.out).mono ?_
  rintro e u5 ⟨rfl, hb⟩
  replace HV := hid (HV.out.below hb)
  replace HM := hid (HM.out.below hb)
  replace HB := hid (bt HB.out hb)
  clear hb
  go_wp2_with fail
  go_ret
  exact ⟨rfl, HB.out⟩

set_option maxHeartbeats 800000 in
set_option maxRecDepth 100000 in
theorem join_tf_f (a b : ByteArray) (w : World) (z0 : ¬ (2147483647 : Int) < (a.size : Int)) (z1 : ¬ (2147483647 : Int) < (b.size : Int)) (ea : a.toList.isEmpty = false) (eb : b.toList.isEmpty = false) (c1 : ¬ 9223372036854775807 < a.size + 1) (c2 : ¬ 9223372036854775807 < a.size + 1 + b.size)
    (hsh : ∀ (W : World) (c : Nat), Calls Tryd.prog 7 #[.slice (some ⟨W.heap.size, 0, none⟩) 2 c] (W.alloc (.cells #[.string a, .string b] 9)) fun e w' => e = .returned (.bool true) ∧ W.alloc (.cells #[.string a, .string b] 9) = w') (hv : Vars w) (hm : VarsM w)
    (hT1 : Hid (∀ w, Vars w → VarsM w → Calls Tryd.prog 8 #[.string (a ++ ⟨#[46]⟩ ++ b)] w fun e w' => e = .returned (.bool false) ∧ Below w.heap.size w w')) (hA1 : Hid (∀ w, Vars w → VarsM w → Calls Tryd.prog 8 #[.string a] w fun e w' => e = .returned (.bool true) ∧ Below w.heap.size w w')) (hB1 : Hid (∀ w, Vars w → VarsM w → Calls Tryd.prog 8 #[.string b] w fun e w' => e = .returned (.bool false) ∧ Below w.heap.size w w')) (hT2 : Hid (∀ w, Vars w → VarsM w → Calls Tryd.prog 10 #[.string (a ++ ⟨#[46]⟩ ++ b)] w fun e w' => e = .returned (.bool false) ∧ Below w.heap.size w w')) (hA2 : Hid (∀ w, Vars w → VarsM w → Calls Tryd.prog 10 #[.string a] w fun e w' => e = .returned (.bool false) ∧ Below w.heap.size w w')) (hZ2 : Hid (∀ w, Vars w → VarsM w → Calls Tryd.prog 10 #[.string zeroB] w fun e w' => e = .returned (.bool true) ∧ Below w.heap.size w w')) : Calls Tryd.prog 4 #[.string a, .string b] w fun e w' => e = .returned (.bool true) ∧ Below w.heap.size w w' := by
  have hb1 : Below w.heap.size w (w.alloc (.cells #[.string a, .string b] 9)) := (Below.refl _ _).alloc (Nat.le_refl _) _
  have HV := hid (hv.below hb1)
  have HM := hid (hm.below hb1)
  have HB := hid hb1
  clear hb1 hv hm
  go_enter Tryd.func4, Tryd.ntmps4
  go_wp2_with (go_at_call 7; refine (hsh _ _).mono ?_; rintro e w' ⟨rfl, rfl⟩)
  go_at_call 8
  refine (hT1.out _ HV.out HM.out).mono ?_
  rintro e u0 ⟨rfl, hb⟩
  replace HV := hid (HV.out.below hb)
  replace HM := hid (HM.out.below hb)
  replace HB := hid (bt HB.out hb)
  clear hb
  go_wp2_with fail
  go_at_call 8
  refine (hA1.out _ HV.out HM.out).mono ?_
  rintro e u1 ⟨rfl, hb⟩
  replace HV := hid (HV.out.below hb)
  replace HM := hid (HM.out.below hb)
  replace HB := hid (bt HB.out hb)
  clear hb
  go_wp2_with fail
  go_at_call 8
  refine (hB1.out _ HV.out HM.out).mono ?_
  rintro e u2 ⟨rfl, hb⟩
  replace HV := hid (HV.out.below hb)
  replace HM := hid (HM.out.below hb)
  replace HB := hid (bt HB.out hb)
  clear hb
  go_wp2_with fail
  go_at_call 10
  refine (hT2.out _ HV.out HM.out).mono ?_
  rintro e u3 ⟨rfl, hb⟩
  replace HV := hid (HV.out.below hb)
  replace HM := hid (HM.out.below hb)
  replace HB := hid (bt HB.out hb)
  clear hb
  go_wp2_with fail
  go_at_call 10
  refine (hA2.out _ HV.out HM.out).mono ?_
  rintro e u4 ⟨rfl, hb⟩
  replace HV := hid (HV.out.below hb)
  replace HM := hid (HM.out.below hb)
  replace HB := hid (bt HB.out hb)
  clear hb
  go_wp2_with fail
  go_at_call 10
  refine (hZ2.out _ HV.out HM.out).mono ?_
  rintro e u5 ⟨rfl, hb⟩
  replace HV := hid (HV.out.below hb)
  replace HM := hid (HM.out.below hb)
  replace HB := hid (bt HB.out hb)
  clear hb
  go_wp2_with fail
  go_ret
  exact ⟨rfl, HB.out⟩

set_option maxHeartbeats 800000 in
set_option maxRecDepth 100000 in
theorem join_tf_tf (a b : ByteArray) (w : World) (z0 : ¬ (2147483647 : Int) < (a.size : Int)) (z1 : ¬ (2147483647 : Int) < (b.size : Int)) (ea : a.toList.isEmpty = false) (eb : b.toList.isEmpty = false) (c1 : ¬ 9223372036854775807 < a.size + 1) (c2 : ¬ 9223372036854775807 < a.size + 1 + b.size)
    (hsh : ∀ (W : World) (c : Nat), Calls Tryd.prog 7 #[.slice (some ⟨W.heap.size, 0, none⟩) 2 c] (W.alloc (.cells #[.string a, .string b] 9)) fun e w' => e = .returned (.bool true) ∧ W.alloc (.cells #[.string a, .string b] 9) = w') (hv : Vars w) (hm : VarsM w)
    (hT1 : Hid (∀ w, Vars w → VarsM w → Calls Tryd.prog 8 #[.string (a ++ ⟨#[46]⟩ ++ b)] w fun e w' => e = .returned (.bool false) ∧ Below w.heap.size w w')) (hA1 : Hid (∀ w, Vars w → VarsM w → Calls Tryd.prog 8 #[.string a] w fun e w' => e = .returned (.bool true) ∧ Below w.heap.size w w')) (hB1 : Hid (∀ w, Vars w → VarsM w → Calls Tryd.prog 8 #[.string b] w fun e w' => e = .returned (.bool false) ∧ Below w.heap.size w w')) (hT2 : Hid (∀ w, Vars w → VarsM w → Calls Tryd.prog 10 #[.string (a ++ ⟨#[46]⟩ ++ b)] w fun e w' => e = .returned (.bool false) ∧ Below w.heap.size w w')) (hA2 : Hid (∀ w, Vars w → VarsM w → Calls Tryd.prog 10 #[.string a] w fun e w' => e = .returned (.bool true) ∧ Below w.heap.size w w')) (hB2 : Hid (∀ w, Vars w → VarsM w → Calls Tryd.prog 10 #[.string b] w fun e w' => e = .returned (.bool false) ∧ Below w.heap.size w w')) (hZ2 : Hid (∀ w, Vars w → VarsM w → Calls Tryd.prog 10 #[.string zeroB] w fun e w' => e = .returned (.bool true) ∧ Below w.heap.size w w')) : Calls Tryd.prog 4 #[.string a, .string b] w fun e w' => e = .returned (.bool true) ∧ Below w.heap.size w w' := by
  have hb1 : Below w.heap.size w (w.alloc (.cells #[.string a, .string b] 9)) := (Below.refl _ _).alloc (Nat.le_refl _) _
  have HV := hid (hv.below hb1)
  have HM := hid (hm.below hb1)
  have HB := hid hb1
  clear hb1 hv hm
  go_enter Tryd.func4, Tryd.ntmps4
  go_wp2_with (go_at_call 7; refine (hsh _ _).mono ?_; rintro e w' ⟨rfl, rfl⟩)
  go_at_call 8
  refine (hT1.out _ HV.out HM.out).mono ?_
  rintro e u0 ⟨rfl, hb⟩
  replace HV := hid (HV.out.below hb)
  replace HM := hid (HM.out.below hb)
  replace HB := hid (bt HB.out hb)
  clear hb
  go_wp2_with fail
  go_at_call 8
  refine (hA1.out _ HV.out HM.out).mono ?_
  rintro e u1 ⟨rfl, hb⟩
  replace HV := hid (HV.out.below hb)
  replace HM := hid (HM.out.below hb)
  replace HB := hid (bt HB.out hb)
  clear hb
  go_wp2_with fail
  go_at_call 8
  refine (hB1.out _ HV.out HM.out).mono ?_
  rintro e u2 ⟨rfl, hb⟩
  replace HV := hid (HV.out.below hb)
  replace HM := hid (HM.out.below hb)
  replace HB := hid (bt HB.out hb)
  clear hb
  go_wp2_with fail
  go_at_call 10
  refine (hT2.out _ HV.out HM.out).mono ?_
  rintro e u3 ⟨rfl, hb⟩
  replace HV := hid (HV.out.below hb)
  replace HM := hid (HM.out.below hb)
  replace HB := hid (bt HB.out hb)
  clear hb
  go_wp2_with fail
  go_at_call 10
  refine (hA2.out _ HV.out HM.out).mono ?_
  rintro e u4 ⟨rfl, hb⟩
  replace HV := hid (HV.out.below hb)
  replace HM := hid (HM.out.below hb)
  replace HB := hid (bt HB.out hb)
  clear hb
  go_wp2_with fail
  go_at_call 10
  refine (hB2.out _ HV.out HM.out).mono ?_
  rintro e u5 ⟨rfl, hb⟩
  replace HV := hid (HV.out.below hb)
  replace HM := hid (HM.out.below hb)
  replace HB := hid (bt HB.out hb)
  clear hb
  go_wp2_with fail
  go_at_call 10
  refine (hZ2.out _ HV.out HM.out).mono ?_
  rintro e u6 ⟨rfl, hb⟩
  replace HV := hid (HV.out.below hb)
  replace HM := hid (HM.out.below hb)
  replace HB := hid (bt HB.out hb)
  clear hb
  go_wp2_with fail
  go_ret
  exact ⟨rfl, HB.out⟩

set_option maxHeartbeats 800000 in
set_option maxRecDepth 100000 in
theorem join_tf_tt (a b : ByteArray) (w : World) (z0 : ¬ (2147483647 : Int) < (a.size : Int)) (z1 : ¬ (2147483647 : Int) < (b.size : Int)) (ea : a.toList.isEmpty = false) (eb : b.toList.isEmpty = false) (c1 : ¬ 9223372036854775807 < a.size + 1) (c2 : ¬ 9223372036854775807 < a.size + 1 + b.size)
    (hsh : ∀ (W : World) (c : Nat), Calls Tryd.prog 7 #[.slice (some ⟨W.heap.size, 0, none⟩) 2 c] (W.alloc (.cells #[.string a, .string b] 9)) fun e w' => e = .returned (.bool true) ∧ W.alloc (.cells #[.string a, .string b] 9) = w') (hv : Vars w) (hm : VarsM w)
    (hT1 : Hid (∀ w, Vars w → VarsM w → Calls Tryd.prog 8 #[.string (a ++ ⟨#[46]⟩ ++ b)] w fun e w' => e = .returned (.bool false) ∧ Below w.heap.size w w')) (hA1 : Hid (∀ w, Vars w → VarsM w → Calls Tryd.prog 8 #[.string a] w fun e w' => e = .returned (.bool true) ∧ Below w.heap.size w w')) (hB1 : Hid (∀ w, Vars w → VarsM w → Calls Tryd.prog 8 #[.string b] w fun e w' => e = .returned (.bool false) ∧ Below w.heap.size w w')) (hT2 : Hid (∀ w, Vars w → VarsM w → Calls Tryd.prog 10 #[.string (a ++ ⟨#[46]⟩ ++ b)] w fun e w' => e = .returned (.bool true) ∧ Below w.heap.size w w')) (hA2 : Hid (∀ w, Vars w → VarsM w → Calls Tryd.prog 10 #[.string a] w fun e w' => e = .returned (.bool true) ∧ Below w.heap.size w w')) (hB2 : Hid (∀ w, Vars w → VarsM w → Calls Tryd.prog 10 #[.string b] w fun e w' => e = .returned (.bool true) ∧ Below w.heap.size w w')) (hZ2 : Hid (∀ w, Vars w → VarsM w → Calls Tryd.prog 10 #[.string zeroB] w fun e w' => e = .returned (.bool true) ∧ Below w.heap.size w w')) : Calls Tryd.prog 4 #[.string a, .string b] w fun e w' => e = .returned (.bool true) ∧ Below w.heap.size w w' := by
  have hb1 : Below w.heap.size w (w.alloc (.cells #[.string a, .string b] 9)) := (Below.refl _ _).alloc (Nat.le_refl _) _
  have HV := hid (hv.below hb1)
  have HM := hid (hm.below hb1)
  have HB := hid hb1
  clear hb1 hv hm
  go_enter Tryd.func4, Tryd.ntmps4
  go_wp2_with (go_at_call 7; refine (hsh _ _).mono ?_; rintro e w' ⟨rfl, rfl⟩)
  go_at_call 8
  refine (hT1.out _ HV.out HM.out).mono ?_
  rintro e u0 ⟨rfl, hb⟩
  replace HV := hid (HV.out.below hb)
  replace HM := hid (HM.out.below hb)
  replace HB := hid (bt HB.out hb)
  clear hb
  go_wp2_with fail
  go_at_call 8
  refine (hA1.out _ HV.out HM.out).mono ?_
  rintro e u1 ⟨rfl, hb⟩
  replace HV := hid (HV.out.below hb)
  replace HM := hid (HM.out.below hb)
  replace HB := hid (bt HB.out hb)
  clear hb
  go_wp2_with fail
  go_at_call 8
  refine (hB1.out _ HV.out HM.out).mono ?_
  rintro e u2 ⟨rfl, hb⟩
  replace HV := hid (HV.out.below hb)
  replace HM := hid (HM.out.below hb)
  replace HB := hid (bt HB.out hb)
  clear hb
  go_wp2_with fail
  go_at_call 10
  refine (hT2.out _ HV.out HM.out).mono ?_
  rintro e u3 ⟨rfl, hb⟩
  replace HV := hid (HV.out.below hb)
  replace HM := hid (HM.out.below hb)
  replace HB := hid (bt HB.out hb)
  clear hb
  go_wp2_with fail
  go_at_call 10
  refine (hA2.out _ HV.out HM.out).mono ?_
  rintro e u4 ⟨rfl, hb⟩
  replace HV := hid (HV.out.below hb)
  replace HM := hid (HM.out.below hb)
  replace HB := hid (bt HB.out hb)
  clear hb
  go_wp2_with fail
  go_at_call 10
  refine (hB2.out _ HV.out HM.out).mono ?_
  rintro e u5 ⟨rfl, hb⟩
  replace HV := hid (HV.out.below hb)
  replace HM := hid (HM.out.below hb)
  replace HB := hid (bt HB.out hb)
  clear hb
  go_wp2_with fail
  go_at_call 10
  refine (hZ2.out _ HV.out HM.out).mono ?_
  rintro e u6 ⟨rfl, hb⟩
  replace HV := hid (HV.out.below hb)
  replace HM := hid (HM.out.below hb)
  replace HB := hid (bt HB.out hb)
  clear hb
  go_wp2_with fail
  go_ret
  exact ⟨rfl, HB.out⟩

set_option maxHeartbeats 800000 in
set_option maxRecDepth 100000 in
theorem join_tt_f (a b : ByteArray) (w : World) (z0 : ¬ (2147483647 : Int) < (a.size : Int)) (z1 : ¬ (2147483647 : Int) < (b.size : Int)) (ea : a.toList.isEmpty = false) (eb : b.toList.isEmpty = false) (c1 : ¬ 9223372036854775807 < a.size + 1) (c2 : ¬ 9223372036854775807 < a.size + 1 + b.size)
    (hsh : ∀ (W : World) (c : Nat), Calls Tryd.prog 7 #[.slice (some ⟨W.heap.size, 0, none⟩) 2 c] (W.alloc (.cells #[.string a, .string b] 9)) fun e w' => e = .returned (.bool true) ∧ W.alloc (.cells #[.string a, .string b] 9) = w') (hv : Vars w) (hm : VarsM w)
    (hT1 : Hid (∀ w, Vars w → VarsM w → Calls Tryd.prog 8 #[.string (a ++ ⟨#[46]⟩ ++ b)] w fun e w' => e = .returned (.bool true) ∧ Below w.heap.size w w')) (hA1 : Hid (∀ w, Vars w → VarsM w → Calls Tryd.prog 8 #[.string a] w fun e w' => e = .returned (.bool true) ∧ Below w.heap.size w w')) (hB1 : Hid (∀ w, Vars w → VarsM w → Calls Tryd.prog 8 #[.string b] w fun e w' => e = .returned (.bool true) ∧ Below w.heap.size w w')) (hT2 : Hid (∀ w, Vars w → VarsM w → Calls Tryd.prog 10 #[.string (a ++ ⟨#[46]⟩ ++ b)] w fun e w' => e = .returned (.bool false) ∧ Below w.heap.size w w')) (hA2 : Hid (∀ w, Vars w → VarsM w → Calls Tryd.prog 10 #[.string a] w fun e w' => e = .returned (.bool false) ∧ Below w.heap.size w w')) (hZ2 : Hid (∀ w, Vars w → VarsM w → Calls Tryd.prog 10 #[.string zeroB] w fun e w' => e = .returned (.bool true) ∧ Below w.heap.size w w')) : Calls Tryd.prog 4 #[.string a, .string b] w fun e w' => e = .returned (.bool true) ∧ Below w.heap.size w w' := by
  have hb1 : Below w.heap.size w (w.alloc (.cells #[.string a, .string b] 9)) := (Below.refl _ _).alloc (Nat.le_refl _) _
  have HV := hid (hv.below hb1)
  have HM := hid (hm.below hb1)
  have HB := hid hb1
  clear hb1 hv hm
  go_enter Tryd.func4, Tryd.ntmps4
  go_wp2_with (go_at_call 7; refine (hsh _ _).mono ?_; rintro e w' ⟨rfl, rfl⟩)
  go_at_call 8
  refine (hT1.out _ HV.out HM.out).mono ?_
  rintro e u0 ⟨rfl, hb⟩
  replace HV := hid (HV.out.below hb)
  replace HM := hid (HM.out.below hb)
  replace HB := hid (bt HB.out hb)
  clear hb
  go_wp2_with fail
  go_at_call 8
  refine (hA1.out _ HV.out HM.out).mono ?_
  rintro e u1 ⟨rfl, hb⟩
  replace HV := hid (HV.out.below hb)
  replace HM := hid (HM.out.below hb)
  replace HB := hid (bt HB.out hb)
  clear hb
  go_wp2_with fail
  go_at_call 8
  refine (hB1.out _ HV.out HM.out).mono ?_
  rintro e u2 ⟨rfl, hb⟩
  replace HV := hid (HV.out.below hb)
  replace HM := hid (HM.out.below hb)
  replace HB := hid (bt HB.out hb)
  clear hb
  go_wp2_with fail
  go_at_call 10
  refine (hT2.out _ HV.out HM.out).mono ?_
  rintro e u3 ⟨rfl, hb⟩
  replace HV := hid (HV.out.below hb)
  replace HM := hid (HM.out.below hb)
  replace HB := hid (bt HB.out hb)
  clear hb
  go_wp2_with fail
  go_at_call 10
  refine (hA2.out _ HV.out HM.out).mono ?_
  rintro e u4 ⟨rfl, hb⟩
  replace HV := hid (HV.out.below hb)
  replace HM := hid (HM.out.below hb)
  replace HB := hid (bt HB.out hb)
  clear hb
  go_wp2_with fail
  go_at_call 10
  refine (hZ2.out _ HV.out HM.out).mono ?_
  rintro e u5 ⟨rfl, hb⟩
  replace HV := hid (HV.out.below hb)
  replace HM := hid (HM.out.below hb)
  replace HB := hid (bt HB.out hb)
  clear hb
  go_wp2_with fail
  go_ret
  exact ⟨rfl, HB.out⟩

set_option maxHeartbeats 800000 in
set_option maxRecDepth 100000 in
theorem join_tt_tf (a b : ByteArray) (w : World) (z0 : ¬ (2147483647 : Int) < (a.size : Int)) (z1 : ¬ (2147483647 : Int) < (b.size : Int)) (ea : a.toList.isEmpty = false) (eb : b.toList.isEmpty = false) (c1 : ¬ 9223372036854775807 < a.size + 1) (c2 : ¬ 9223372036854775807 < a.size + 1 + b.size)
    (hsh : ∀ (W : World) (c : Nat), Calls Tryd.prog 7 #[.slice (some ⟨W.heap.size, 0, none⟩) 2 c] (W.alloc (.cells #[.string a, .string b] 9)) fun e w' => e = .returned (.bool true) ∧ W.alloc (.cells #[.string a, .string b] 9) = w') (hv : Vars w) (hm : VarsM w)
    (hT1 : Hid (∀ w, Vars w → VarsM w → Calls Tryd.prog 8 #[.string (a ++ ⟨#[46]⟩ ++ b)] w fun e w' => e = .returned (.bool true) ∧ Below w.heap.size w w')) (hA1 : Hid (∀ w, Vars w → VarsM w → Calls Tryd.prog 8 #[.string a] w fun e w' => e = .returned (.bool true) ∧ Below w.heap.size w w')) (hB1 : Hid (∀ w, Vars w → VarsM w → Calls Tryd.prog 8 #[.string b] w fun e w' => e = .returned (.bool true) ∧ Below w.heap.size w w')) (hT2 : Hid (∀ w, Vars w → VarsM w → Calls Tryd.prog 10 #[.string (a ++ ⟨#[46]⟩ ++ b)] w fun e w' => e = .returned (.bool false) ∧ Below w.heap.size w w')) (hA2 : Hid (∀ w, Vars w → VarsM w → Calls Tryd.prog 10 #[.string a] w fun e w' => e = .returned (.bool true) ∧ Below w.heap.size w w')) (hB2 : Hid (∀ w, Vars w → VarsM w → Calls Tryd.prog 10 #[.string b] w fun e w' => e = .returned (.bool false) ∧ Below w.heap.size w w')) (hZ2 : Hid (∀ w, Vars w → VarsM w → Calls Tryd.prog 10 #[.string zeroB] w fun e w' => e = .returned (.bool true) ∧ Below w.heap.size w w')) : Calls Tryd.prog 4 #[.string a, .string b] w fun e w' => e = .returned (.bool true) ∧ Below w.heap.size w w' := by
  have hb1 : Below w.heap.size w (w.alloc (.cells #[.string a, .string b] 9)) := (Below.refl _ _).alloc (Nat.le_refl _) _
  have HV := hid (hv.below hb1)
  have HM := hid (hm.below hb1)
  have HB := hid hb1
  clear hb1 hv hm
  go_enter Tryd.func4, Tryd.ntmps4
  go_wp2_with (go_at_call 7; refine (hsh _ _).mono ?_; rintro e w' ⟨rfl, rfl⟩)
  go_at_call 8
  refine (hT1.out _ HV.out HM.out).mono ?_
  rintro e u0 ⟨rfl, hb⟩
  replace HV := hid (HV.out.below hb)
  replace HM := hid (HM.out.below hb)
  replace HB := hid (bt HB.out hb)
  clear hb
  go_wp2_with fail
  go_at_call 8
  refine (hA1.out _ HV.out HM.out).mono ?_
  rintro e u1 ⟨rfl, hb⟩
  replace HV := hid (HV.out.below hb)
  replace HM := hid (HM.out.below hb)
  replace HB := hid (bt HB.out hb)
  clear hb
  go_wp2_with fail
  go_at_call 8
  refine (hB1.out _ HV.out HM.out).mono ?_
  rintro e u2 ⟨rfl, hb⟩
  replace HV := hid (HV.out.below hb)
  replace HM := hid (HM.out.below hb)
  replace HB := hid (bt HB.out hb)
  clear hb
  go_wp2_with fail
  go_at_call 10
  refine (hT2.out _ HV.out HM.out).mono ?_
  rintro e u3 ⟨rfl, hb⟩
  replace HV := hid (HV.out.below hb)
  replace HM := hid (HM.out.below hb)
  replace HB := hid (bt HB.out hb)
  clear hb
  go_wp2_with fail
  go_at_call 10
  refine (hA2.out _ HV.out HM.out).mono ?_
  rintro e u4 ⟨rfl, hb⟩
  replace HV := hid (HV.out.below hb)
  replace HM := hid (HM.out.below hb)
  replace HB := hid (bt HB.out hb)
  clear hb
  go_wp2_with fail
  go_at_call 10
  refine (hB2.out _ HV.out HM.out).mono ?_
  rintro e u5 ⟨rfl, hb⟩
  replace HV := hid (HV.out.below hb)
  replace HM := hid (HM.out.below hb)
  replace HB := hid (bt HB.out hb)
  clear hb
  go_wp2_with fail
  go_at_call 10
  refine (hZ2.out _ HV.out HM.out).mono ?_
  rintro e u6 ⟨rfl, hb⟩
  replace HV := hid (HV.out.below hb)
  replace HM := hid (HM.out.below hb)
  replace HB := hid (bt HB.out hb)
  clear hb
  go_wp2_with fail
  go_ret
  exact ⟨rfl, HB.out⟩

set_option maxHeartbeats 800000 in
set_option maxRecDepth 100000 in
theorem join_tt_tt (a b : ByteArray) (w : World) (z0 : ¬ (2147483647 : Int) < (a.size : Int)) (z1 : ¬ (2147483647 : Int) < (b.size : Int)) (ea : a.toList.isEmpty = false) (eb : b.toList.isEmpty = false) (c1 : ¬ 9223372036854775807 < a.size + 1) (c2 : ¬ 9223372036854775807 < a.size + 1 + b.size)
    (hsh : ∀ (W : World) (c : Nat), Calls Tryd.prog 7 #[.slice (some ⟨W.heap.size, 0, none⟩) 2 c] (W.alloc (.cells #[.string a, .string b] 9)) fun e w' => e = .returned (.bool true) ∧ W.alloc (.cells #[.string a, .string b] 9) = w') (hv : Vars w) (hm : VarsM w)
    (hT1 : Hid (∀ w, Vars w → VarsM w → Calls Tryd.prog 8 #[.string (a ++ ⟨#[46]⟩ ++ b)] w fun e w' => e = .returned (.bool true) ∧ Below w.heap.size w w')) (hA1 : Hid (∀ w, Vars w → VarsM w → Calls Tryd.prog 8 #[.string a] w fun e w' => e = .returned (.bool true) ∧ Below w.heap.size w w')) (hB1 : Hid (∀ w, Vars w → VarsM w → Calls Tryd.prog 8 #[.string b] w fun e w' => e = .returned (.bool true) ∧ Below w.heap.size w w')) (hT2 : Hid (∀ w, Vars w → VarsM w → Calls Tryd.prog 10 #[.string (a ++ ⟨#[46]⟩ ++ b)] w fun e w' => e = .returned (.bool true) ∧ Below w.heap.size w w')) (hA2 : Hid (∀ w, Vars w → VarsM w → Calls Tryd.prog 10 #[.string a] w fun e w' => e = .returned (.bool true) ∧ Below w.heap.size w w')) (hB2 : Hid (∀ w, Vars w → VarsM w → Calls Tryd.prog 10 #[.string b] w fun e w' => e = .returned (.bool true) ∧ Below w.heap.size w w')) (hZ2 : Hid (∀ w, Vars w → VarsM w → Calls Tryd.prog 10 #[.string zeroB] w fun e w' => e = .returned (.bool true) ∧ Below w.heap.size w w')) : Calls Tryd.prog 4 #[.string a, .string b] w fun e w' => e = .returned (.bool true) ∧ Below w.heap.size w w' := by
  have hb1 : Below w.heap.size w (w.alloc (.cells #[.string a, .string b] 9)) := (Below.refl _ _).alloc (Nat.le_refl _) _
  have HV := hid (hv.below hb1)
  have HM := hid (hm.below hb1)
  have HB := hid hb1
  clear hb1 hv hm
  go_enter Tryd.func4, Tryd.ntmps4
  go_wp2_with (go_at_call 7; refine (hsh _ _).mono ?_; rintro e w' ⟨rfl, rfl⟩)
  go_at_call 8
  refine (hT1.out _ HV.out HM.out).mono ?_
  rintro e u0 ⟨rfl, hb⟩
  replace HV := hid (HV.out.below hb)
  replace HM := hid (HM.out.below hb)
  replace HB := hid (bt HB.out hb)
  clear hb
  go_wp2_with fail
  go_at_call 8
  refine (hA1.out _ HV.out HM.out).mono ?_
  rintro e u1 ⟨rfl, hb⟩
  replace HV := hid (HV.out.below hb)
  replace HM := hid (HM.out.below hb)
  replace HB := hid (bt HB.out hb)
  clear hb
  go_wp2_with fail
  go_at_call 8
  refine (hB1.out _ HV.out HM.out).mono ?_
  rintro e u2 ⟨rfl, hb⟩
  replace HV := hid (HV.out.below hb)
  replace HM := hid (HM.out.below hb)
  replace HB := hid (bt HB.out hb)
  clear hb
  go_wp2_with fail
  go_at_call 10
  refine (hT2.out _ HV.out HM.out).mono ?_
  rintro e u3 ⟨rfl, hb⟩
  replace HV := hid (HV.out.below hb)
  replace HM := hid (HM.out.below hb)
  replace HB := hid (bt HB.out hb)
  clear hb
  go_wp2_with fail
  go_at_call 10
  refine (hA2.out _ HV.out HM.out).mono ?_
  rintro e u4 ⟨rfl, hb⟩
  replace HV := hid (HV.out.below hb)
  replace HM := hid (HM.out.below hb)
  replace HB := hid (bt HB.out hb)
  clear hb
  go_wp2_with fail
  go_at_call 10
  refine (hB2.out _ HV.out HM.out).mono ?_
  rintro e u5 ⟨rfl, hb⟩
  replace HV := hid (HV.out.below hb)
  replace HM := hid (HM.out.below hb)
  replace HB := hid (bt HB.out hb)
  clear hb
  go_wp2_with fail
  go_at_call 10
  refine (hZ2.out _ HV.out HM.out).mono ?_
  rintro e u6 ⟨rfl, hb⟩
  replace HV := hid (HV.out.below hb)
  replace HM := hid (HM.out.below hb)
  replace HB := hid (bt HB.out hb)
  clear hb
  go_wp2_with fail
  go_ret
  exact ⟨rfl, HB.out⟩

theorem join_big1 (a b : ByteArray) (w : World) (z0 : (2147483647 : Int) < (a.size : Int)) : Calls Tryd.prog 4 #[.string a, .string b] w fun e w' => e = .returned (.bool true) ∧ Below w.heap.size w w' := by
  go_enter Tryd.func4, Tryd.ntmps4
  go_wp2_with fail
  go_ret
  exact ⟨rfl, by go_grown⟩

theorem join_big2 (a b : ByteArray) (w : World) (z0 : ¬ (2147483647 : Int) < (a.size : Int)) (z1 : (2147483647 : Int) < (b.size : Int)) : Calls Tryd.prog 4 #[.string a, .string b] w fun e w' => e = .returned (.bool true) ∧ Below w.heap.size w w' := by
  go_enter Tryd.func4, Tryd.ntmps4
  go_wp2_with fail
  go_ret
  exact ⟨rfl, by go_grown⟩

theorem join_none1 (a b : ByteArray) (w : World) (z0 : ¬ (2147483647 : Int) < (a.size : Int)) (z1 : ¬ (2147483647 : Int) < (b.size : Int)) (ea : a.toList.isEmpty = true) : Calls Tryd.prog 4 #[.string a, .string b] w fun e w' => e = .returned (.bool true) ∧ Below w.heap.size w w' := by
  go_enter Tryd.func4, Tryd.ntmps4
  go_wp2_with fail
  go_ret
  exact ⟨rfl, by go_grown⟩

theorem join_none2 (a b : ByteArray) (w : World) (z0 : ¬ (2147483647 : Int) < (a.size : Int)) (z1 : ¬ (2147483647 : Int) < (b.size : Int)) (ea : a.toList.isEmpty = false) (eb : b.toList.isEmpty = true) : Calls Tryd.prog 4 #[.string a, .string b] w fun e w' => e = .returned (.bool true) ∧ Below w.heap.size w w' := by
  go_enter Tryd.func4, Tryd.ntmps4
  go_wp2_with fail
  go_ret
  exact ⟨rfl, by go_grown⟩

theorem join_long (a b : ByteArray) (w : World) (z0 : ¬ (2147483647 : Int) < (a.size : Int)) (z1 : ¬ (2147483647 : Int) < (b.size : Int)) (ea : a.toList.isEmpty = false) (eb : b.toList.isEmpty = false) (hsh : ∀ (W : World) (c : Nat), Calls Tryd.prog 7 #[.slice (some ⟨W.heap.size, 0, none⟩) 2 c] (W.alloc (.cells #[.string a, .string b] 9)) fun e w' => e = .returned (.bool false) ∧ W.alloc (.cells #[.string a, .string b] 9) = w') : Calls Tryd.prog 4 #[.string a, .string b] w fun e w' => e = .returned (.bool true) ∧ Below w.heap.size w w' := by
  go_enter Tryd.func4, Tryd.ntmps4
  go_wp2_with (go_at_call 7; refine (hsh _ _).mono ?_; rintro e w' ⟨rfl, rfl⟩)
  go_ret
  exact ⟨rfl, by go_grown⟩

theorem fnSemverValidJoin_walk (a b : ByteArray) (w : World) (_hma : a.size ≤ maxLen) (_hmb : b.size ≤ maxLen) (hvm : Vars w ∧ VarsM w) : Calls Tryd.prog 4 #[.string a, .string b] w fun e w' => e = .returned (.bool true) ∧ Below w.heap.size w w' := by
  obtain ⟨hv0, hm0⟩ := hvm
  by_cases ha : a.size ≤ 2147483647
  case neg => exact join_big1 a b w (by omega)
  by_cases hb : b.size ≤ 2147483647
  case neg => exact join_big2 a b w (by omega) (by omega)
  cases ea : a.toList.isEmpty
  case true => exact join_none1 a b w (by omega) (by omega) ea
  cases eb : b.toList.isEmpty
  case true => exact join_none2 a b w (by omega) (by omega) ea eb
  have hsh := short_two a b ha hb
  cases h6 : (short a && short b)
  · rw [h6] at hsh
    exact join_long a b w (by omega) (by omega) ea eb hsh
  rw [h6] at hsh
  have hl : a.size ≤ 65536 ∧ b.size ≤ 65536 := by simpa [short] using h6
  have hx : (a ++ ⟨#[46]⟩ ++ b).size ≤ 2147483647 := by
    rw [ByteArray.size_append, ByteArray.size_append]
    show a.size + 1 + b.size ≤ _
    omega
  have j1 := join_all preId a b
  have j2 := join_all validId a b
  have hzz : zeroB.size ≤ 2147483647 := by show 4 ≤ 2147483647; omega
  cases pa : (cut 46 a.toList).all preId
  · rw [pa, Bool.false_and] at j1
    cases ma : (cut 46 a.toList).all validId
    · rw [ma, Bool.false_and] at j2
      exact join_f_f a b w (by omega) (by omega) ea eb (by omega) (by omega) hsh hv0 hm0 (hid fun w hv hm => by have h := ivpre_any _ w hx hv; rw [j1] at h; exact h) (hid fun w hv hm => by have h := ivpre_any a w ha hv; rw [pa] at h; exact h) (hid fun w hv hm => by have h := ivmeta_any _ w hx hm; rw [j2] at h; exact h) (hid fun w hv hm => by have h := ivmeta_any a w ha hm; rw [ma] at h; exact h) (hid fun w hv hm => by have h := ivmeta_any zeroB w hzz hm; rw [zero_meta] at h; exact h)
    · rw [ma, Bool.true_and] at j2
      cases mb : (cut 46 b.toList).all validId
      · rw [mb] at j2
        exact join_f_tf a b w (by omega) (by omega) ea eb (by omega) (by omega) hsh hv0 hm0 (hid fun w hv hm => by have h := ivpre_any _ w hx hv; rw [j1] at h; exact h) (hid fun w hv hm => by have h := ivpre_any a w ha hv; rw [pa] at h; exact h) (hid fun w hv hm => by have h := ivmeta_any _ w hx hm; rw [j2] at h; exact h) (hid fun w hv hm => by have h := ivmeta_any a w ha hm; rw [ma] at h; exact h) (hid fun w hv hm => by have h := ivmeta_any b w hb hm; rw [mb] at h; exact h) (hid fun w hv hm => by have h := ivmeta_any zeroB w hzz hm; rw [zero_meta] at h; exact h)
      · rw [mb] at j2
        exact join_f_tt a b w (by omega) (by omega) ea eb (by omega) (by omega) hsh hv0 hm0 (hid fun w hv hm => by have h := ivpre_any _ w hx hv; rw [j1] at h; exact h) (hid fun w hv hm => by have h := ivpre_any a w ha hv; rw [pa] at h; exact h) (hid fun w hv hm => by have h := ivmeta_any _ w hx hm; rw [j2] at h; exact h) (hid fun w hv hm => by have h := ivmeta_any a w ha hm; rw [ma] at h; exact h) (hid fun w hv hm => by have h := ivmeta_any b w hb hm; rw [mb] at h; exact h) (hid fun w hv hm => by have h := ivmeta_any zeroB w hzz hm; rw [zero_meta] at h; exact h)
  · rw [pa, Bool.true_and] at j1
    cases pb : (cut 46 b.toList).all preId
    · rw [pb] at j1
      cases ma : (cut 46 a.toList).all validId
      · rw [ma, Bool.false_and] at j2
        exact join_tf_f a b w (by omega) (by omega) ea eb (by omega) (by omega) hsh hv0 hm0 (hid fun w hv hm => by have h := ivpre_any _ w hx hv; rw [j1] at h; exact h) (hid fun w hv hm => by have h := ivpre_any a w ha hv; rw [pa] at h; exact h) (hid fun w hv hm => by have h := ivpre_any b w hb hv; rw [pb] at h; exact h) (hid fun w hv hm => by have h := ivmeta_any _ w hx hm; rw [j2] at h; exact h) (hid fun w hv hm => by have h := ivmeta_any a w ha hm; rw [ma] at h; exact h) (hid fun w hv hm => by have h := ivmeta_any zeroB w hzz hm; rw [zero_meta] at h; exact h)
      · rw [ma, Bool.true_and] at j2
        cases mb : (cut 46 b.toList).all validId
        · rw [mb] at j2
          exact join_tf_tf a b w (by omega) (by omega) ea eb (by omega) (by omega) hsh hv0 hm0 (hid fun w hv hm => by have h := ivpre_any _ w hx hv; rw [j1] at h; exact h) (hid fun w hv hm => by have h := ivpre_any a w ha hv; rw [pa] at h; exact h) (hid fun w hv hm => by have h := ivpre_any b w hb hv; rw [pb] at h; exact h) (hid fun w hv hm => by have h := ivmeta_any _ w hx hm; rw [j2] at h; exact h) (hid fun w hv hm => by have h := ivmeta_any a w ha hm; rw [ma] at h; exact h) (hid fun w hv hm => by have h := ivmeta_any b w hb hm; rw [mb] at h; exact h) (hid fun w hv hm => by have h := ivmeta_any zeroB w hzz hm; rw [zero_meta] at h; exact h)
        · rw [mb] at j2
          exact join_tf_tt a b w (by omega) (by omega) ea eb (by omega) (by omega) hsh hv0 hm0 (hid fun w hv hm => by have h := ivpre_any _ w hx hv; rw [j1] at h; exact h) (hid fun w hv hm => by have h := ivpre_any a w ha hv; rw [pa] at h; exact h) (hid fun w hv hm => by have h := ivpre_any b w hb hv; rw [pb] at h; exact h) (hid fun w hv hm => by have h := ivmeta_any _ w hx hm; rw [j2] at h; exact h) (hid fun w hv hm => by have h := ivmeta_any a w ha hm; rw [ma] at h; exact h) (hid fun w hv hm => by have h := ivmeta_any b w hb hm; rw [mb] at h; exact h) (hid fun w hv hm => by have h := ivmeta_any zeroB w hzz hm; rw [zero_meta] at h; exact h)
    · rw [pb] at j1
      cases ma : (cut 46 a.toList).all validId
      · rw [ma, Bool.false_and] at j2
        exact join_tt_f a b w (by omega) (by omega) ea eb (by omega) (by omega) hsh hv0 hm0 (hid fun w hv hm => by have h := ivpre_any _ w hx hv; rw [j1] at h; exact h) (hid fun w hv hm => by have h := ivpre_any a w ha hv; rw [pa] at h; exact h) (hid fun w hv hm => by have h := ivpre_any b w hb hv; rw [pb] at h; exact h) (hid fun w hv hm => by have h := ivmeta_any _ w hx hm; rw [j2] at h; exact h) (hid fun w hv hm => by have h := ivmeta_any a w ha hm; rw [ma] at h; exact h) (hid fun w hv hm => by have h := ivmeta_any zeroB w hzz hm; rw [zero_meta] at h; exact h)
      · rw [ma, Bool.true_and] at j2
        cases mb : (cut 46 b.toList).all validId
        · rw [mb] at j2
          exact join_tt_tf a b w (by omega) (by omega) ea eb (by omega) (by omega) hsh hv0 hm0 (hid fun w hv hm => by have h := ivpre_any _ w hx hv; rw [j1] at h; exact h) (hid fun w hv hm => by have h := ivpre_any a w ha hv; rw [pa] at h; exact h) (hid fun w hv hm => by have h := ivpre_any b w hb hv; rw [pb] at h; exact h) (hid fun w hv hm => by have h := ivmeta_any _ w hx hm; rw [j2] at h; exact h) (hid fun w hv hm => by have h := ivmeta_any a w ha hm; rw [ma] at h; exact h) (hid fun w hv hm => by have h := ivmeta_any b w hb hm; rw [mb] at h; exact h) (hid fun w hv hm => by have h := ivmeta_any zeroB w hzz hm; rw [zero_meta] at h; exact h)
        · rw [mb] at j2
          exact join_tt_tt a b w (by omega) (by omega) ea eb (by omega) (by omega) hsh hv0 hm0 (hid fun w hv hm => by have h := ivpre_any _ w hx hv; rw [j1] at h; exact h) (hid fun w hv hm => by have h := ivpre_any a w ha hv; rw [pa] at h; exact h) (hid fun w hv hm => by have h := ivpre_any b w hb hv; rw [pb] at h; exact h) (hid fun w hv hm => by have h := ivmeta_any _ w hx hm; rw [j2] at h; exact h) (hid fun w hv hm => by have h := ivmeta_any a w ha hm; rw [ma] at h; exact h) (hid fun w hv hm => by have h := ivmeta_any b w hb hm; rw [mb] at h; exact h) (hid fun w hv hm => by have h := ivmeta_any zeroB w hzz hm; rw [zero_meta] at h; exact h)
end Go.Proofs.YtknjengnipidoaaDoor
