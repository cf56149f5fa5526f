/- The law FnSemverTermApart, walked. The law FnSemverTermApart: the plain law, and the ways joined. -/
import Derived.Test.YtmlbjcdildaldaaDoorTermH
import Derived.Test.YtmlbjcdildaldaaDoorAfter
set_option linter.unusedVariables false
set_option linter.unusedSimpArgs false
namespace Go.Proofs.YtmlbjcdildaldaaDoor
open Go.RowKit

set_option maxHeartbeats 800000 in
set_option maxRecDepth 100000 in
theorem apart_unfit1 (a b c : Int) (p m : ByteArray) (k : Int) (a' b' c' : Int) (p' m' : ByteArray) (w : World) (hp : p.size ≤ maxLen) (hm : m.size ≤ maxLen) (hp' : p'.size ≤ maxLen) (hm' : m'.size ≤ maxLen) (hv : Vars w) (f1 : fitB p m = false) :
    Calls Tryd.prog 9 #[.agg (scells a b c p m), .int .i64 k, .agg (scells a' b' c' p' m')] w fun e w' => e = .returned (.bool true) ∧ Below w.heap.size w w' := by
  have BW : Below w.heap.size w ((w.alloc (.cells (scells a b c p m) 27)).alloc (.cells (scells a' b' c' p' m') 27)) := by go_grown
  have HW := hid BW
  obtain ⟨q1, q2⟩ := two_new w (scells a b c p m) (scells a' b' c' p' m') 27 27
  have Q1 := hid q1
  have Q2 := hid q2
  have B0 := hid (Below.refl ((w.alloc (.cells (scells a b c p m) 27)).alloc (.cells (scells a' b' c' p' m') 27)).heap.size ((w.alloc (.cells (scells a b c p m) 27)).alloc (.cells (scells a' b' c' p' m') 27)))
  have HV := hid hv
  clear BW q1 q2 hv
  go_enter Tryd.func9, Tryd.ntmps9
  go_wp2_with fail
  go_at_call 17
  refine (fitB_any a b c p m _ hp hm).mono ?_
  rintro e w1 ⟨rfl, hb⟩
  have B1 := hid (bt B0.out hb)
  clear hb
  have x1_0 : w1.cell? ⟨w.heap.size, 0, none⟩ = some (.int .u64 a) := (Q1.out.below B1.out).cell 0
  have y1_0 : w1.cell? ⟨w.heap.size + 1, 0, none⟩ = some (.int .u64 a') := (Q2.out.below B1.out).cell 0
  have x1_1 : w1.cell? ⟨w.heap.size, 1, none⟩ = some (.int .u64 b) := (Q1.out.below B1.out).cell 1
  have y1_1 : w1.cell? ⟨w.heap.size + 1, 1, none⟩ = some (.int .u64 b') := (Q2.out.below B1.out).cell 1
  have x1_2 : w1.cell? ⟨w.heap.size, 2, none⟩ = some (.int .u64 c) := (Q1.out.below B1.out).cell 2
  have y1_2 : w1.cell? ⟨w.heap.size + 1, 2, none⟩ = some (.int .u64 c') := (Q2.out.below B1.out).cell 2
  have x1_3 : w1.cell? ⟨w.heap.size, 3, none⟩ = some (.string p) := (Q1.out.below B1.out).cell 3
  have y1_3 : w1.cell? ⟨w.heap.size + 1, 3, none⟩ = some (.string p') := (Q2.out.below B1.out).cell 3
  have x1_4 : w1.cell? ⟨w.heap.size, 4, none⟩ = some (.string m) := (Q1.out.below B1.out).cell 4
  have y1_4 : w1.cell? ⟨w.heap.size + 1, 4, none⟩ = some (.string m') := (Q2.out.below B1.out).cell 4
  go_wp2_with fail
  go_ret
  exact ⟨rfl, bt HW.out B1.out⟩

set_option maxHeartbeats 800000 in
set_option maxRecDepth 100000 in
theorem apart_unfit2 (a b c : Int) (p m : ByteArray) (k : Int) (a' b' c' : Int) (p' m' : ByteArray) (w : World) (hp : p.size ≤ maxLen) (hm : m.size ≤ maxLen) (hp' : p'.size ≤ maxLen) (hm' : m'.size ≤ maxLen) (hv : Vars w) (f1 : fitB p m = true) (f2 : fitB p' m' = false) :
    Calls Tryd.prog 9 #[.agg (scells a b c p m), .int .i64 k, .agg (scells a' b' c' p' m')] w fun e w' => e = .returned (.bool true) ∧ Below w.heap.size w w' := by
  have BW : Below w.heap.size w ((w.alloc (.cells (scells a b c p m) 27)).alloc (.cells (scells a' b' c' p' m') 27)) := by go_grown
  have HW := hid BW
  obtain ⟨q1, q2⟩ := two_new w (scells a b c p m) (scells a' b' c' p' m') 27 27
  have Q1 := hid q1
  have Q2 := hid q2
  have B0 := hid (Below.refl ((w.alloc (.cells (scells a b c p m) 27)).alloc (.cells (scells a' b' c' p' m') 27)).heap.size ((w.alloc (.cells (scells a b c p m) 27)).alloc (.cells (scells a' b' c' p' m') 27)))
  have HV := hid hv
  clear BW q1 q2 hv
  go_enter Tryd.func9, Tryd.ntmps9
  go_wp2_with fail
  go_at_call 17
  refine (fitB_any a b c p m _ hp hm).mono ?_
  rintro e w1 ⟨rfl, hb⟩
  have B1 := hid (bt B0.out hb)
  clear hb
  have x1_0 : w1.cell? ⟨w.heap.size, 0, none⟩ = some (.int .u64 a) := (Q1.out.below B1.out).cell 0
  have y1_0 : w1.cell? ⟨w.heap.size + 1, 0, none⟩ = some (.int .u64 a') := (Q2.out.below B1.out).cell 0
  have x1_1 : w1.cell? ⟨w.heap.size, 1, none⟩ = some (.int .u64 b) := (Q1.out.below B1.out).cell 1
  have y1_1 : w1.cell? ⟨w.heap.size + 1, 1, none⟩ = some (.int .u64 b') := (Q2.out.below B1.out).cell 1
  have x1_2 : w1.cell? ⟨w.heap.size, 2, none⟩ = some (.int .u64 c) := (Q1.out.below B1.out).cell 2
  have y1_2 : w1.cell? ⟨w.heap.size + 1, 2, none⟩ = some (.int .u64 c') := (Q2.out.below B1.out).cell 2
  have x1_3 : w1.cell? ⟨w.heap.size, 3, none⟩ = some (.string p) := (Q1.out.below B1.out).cell 3
  have y1_3 : w1.cell? ⟨w.heap.size + 1, 3, none⟩ = some (.string p') := (Q2.out.below B1.out).cell 3
  have x1_4 : w1.cell? ⟨w.heap.size, 4, none⟩ = some (.string m) := (Q1.out.below B1.out).cell 4
  have y1_4 : w1.cell? ⟨w.heap.size + 1, 4, none⟩ = some (.string m') := (Q2.out.below B1.out).cell 4
  go_wp2_with fail
  go_at_call 17
  refine (fitB_any a' b' c' p' m' _ hp' hm').mono ?_
  rintro e w2 ⟨rfl, hb⟩
  have B2 := hid (bt B1.out hb)
  clear hb
  have x2_0 : w2.cell? ⟨w.heap.size, 0, none⟩ = some (.int .u64 a) := (Q1.out.below B2.out).cell 0
  have y2_0 : w2.cell? ⟨w.heap.size + 1, 0, none⟩ = some (.int .u64 a') := (Q2.out.below B2.out).cell 0
  have x2_1 : w2.cell? ⟨w.heap.size, 1, none⟩ = some (.int .u64 b) := (Q1.out.below B2.out).cell 1
  have y2_1 : w2.cell? ⟨w.heap.size + 1, 1, none⟩ = some (.int .u64 b') := (Q2.out.below B2.out).cell 1
  have x2_2 : w2.cell? ⟨w.heap.size, 2, none⟩ = some (.int .u64 c) := (Q1.out.below B2.out).cell 2
  have y2_2 : w2.cell? ⟨w.heap.size + 1, 2, none⟩ = some (.int .u64 c') := (Q2.out.below B2.out).cell 2
  have x2_3 : w2.cell? ⟨w.heap.size, 3, none⟩ = some (.string p) := (Q1.out.below B2.out).cell 3
  have y2_3 : w2.cell? ⟨w.heap.size + 1, 3, none⟩ = some (.string p') := (Q2.out.below B2.out).cell 3
  have x2_4 : w2.cell? ⟨w.heap.size, 4, none⟩ = some (.string m) := (Q1.out.below B2.out).cell 4
  have y2_4 : w2.cell? ⟨w.heap.size + 1, 4, none⟩ = some (.string m') := (Q2.out.below B2.out).cell 4
  go_wp2_with fail
  go_ret
  exact ⟨rfl, bt HW.out B2.out⟩

set_option maxHeartbeats 800000 in
set_option maxRecDepth 100000 in
theorem apart_low (a b c : Int) (p m : ByteArray) (k : Int) (a' b' c' : Int) (p' m' : ByteArray) (w : World) (hp : p.size ≤ maxLen) (hm : m.size ≤ maxLen) (hp' : p'.size ≤ maxLen) (hm' : m'.size ≤ maxLen) (hv : Vars w) (f1 : fitB p m = true) (f2 : fitB p' m' = true) (h1 : k < 1) :
    Calls Tryd.prog 9 #[.agg (scells a b c p m), .int .i64 k, .agg (scells a' b' c' p' m')] w fun e w' => e = .returned (.bool true) ∧ Below w.heap.size w w' := by
  have BW : Below w.heap.size w ((w.alloc (.cells (scells a b c p m) 27)).alloc (.cells (scells a' b' c' p' m') 27)) := by go_grown
  have HW := hid BW
  obtain ⟨q1, q2⟩ := two_new w (scells a b c p m) (scells a' b' c' p' m') 27 27
  have Q1 := hid q1
  have Q2 := hid q2
  have B0 := hid (Below.refl ((w.alloc (.cells (scells a b c p m) 27)).alloc (.cells (scells a' b' c' p' m') 27)).heap.size ((w.alloc (.cells (scells a b c p m) 27)).alloc (.cells (scells a' b' c' p' m') 27)))
  have HV := hid hv
  clear BW q1 q2 hv
  go_enter Tryd.func9, Tryd.ntmps9
  go_wp2_with fail
  go_at_call 17
  refine (fitB_any a b c p m _ hp hm).mono ?_
  rintro e w1 ⟨rfl, hb⟩
  have B1 := hid (bt B0.out hb)
  clear hb
  have x1_0 : w1.cell? ⟨w.heap.size, 0, none⟩ = some (.int .u64 a) := (Q1.out.below B1.out).cell 0
  have y1_0 : w1.cell? ⟨w.heap.size + 1, 0, none⟩ = some (.int .u64 a') := (Q2.out.below B1.out).cell 0
  have x1_1 : w1.cell? ⟨w.heap.size, 1, none⟩ = some (.int .u64 b) := (Q1.out.below B1.out).cell 1
  have y1_1 : w1.cell? ⟨w.heap.size + 1, 1, none⟩ = some (.int .u64 b') := (Q2.out.below B1.out).cell 1
  have x1_2 : w1.cell? ⟨w.heap.size, 2, none⟩ = some (.int .u64 c) := (Q1.out.below B1.out).cell 2
  have y1_2 : w1.cell? ⟨w.heap.size + 1, 2, none⟩ = some (.int .u64 c') := (Q2.out.below B1.out).cell 2
  have x1_3 : w1.cell? ⟨w.heap.size, 3, none⟩ = some (.string p) := (Q1.out.below B1.out).cell 3
  have y1_3 : w1.cell? ⟨w.heap.size + 1, 3, none⟩ = some (.string p') := (Q2.out.below B1.out).cell 3
  have x1_4 : w1.cell? ⟨w.heap.size, 4, none⟩ = some (.string m) := (Q1.out.below B1.out).cell 4
  have y1_4 : w1.cell? ⟨w.heap.size + 1, 4, none⟩ = some (.string m') := (Q2.out.below B1.out).cell 4
  go_wp2_with fail
  go_at_call 17
  refine (fitB_any a' b' c' p' m' _ hp' hm').mono ?_
  rintro e w2 ⟨rfl, hb⟩
  have B2 := hid (bt B1.out hb)
  clear hb
  have x2_0 : w2.cell? ⟨w.heap.size, 0, none⟩ = some (.int .u64 a) := (Q1.out.below B2.out).cell 0
  have y2_0 : w2.cell? ⟨w.heap.size + 1, 0, none⟩ = some (.int .u64 a') := (Q2.out.below B2.out).cell 0
  have x2_1 : w2.cell? ⟨w.heap.size, 1, none⟩ = some (.int .u64 b) := (Q1.out.below B2.out).cell 1
  have y2_1 : w2.cell? ⟨w.heap.size + 1, 1, none⟩ = some (.int .u64 b') := (Q2.out.below B2.out).cell 1
  have x2_2 : w2.cell? ⟨w.heap.size, 2, none⟩ = some (.int .u64 c) := (Q1.out.below B2.out).cell 2
  have y2_2 : w2.cell? ⟨w.heap.size + 1, 2, none⟩ = some (.int .u64 c') := (Q2.out.below B2.out).cell 2
  have x2_3 : w2.cell? ⟨w.heap.size, 3, none⟩ = some (.string p) := (Q1.out.below B2.out).cell 3
  have y2_3 : w2.cell? ⟨w.heap.size + 1, 3, none⟩ = some (.string p') := (Q2.out.below B2.out).cell 3
  have x2_4 : w2.cell? ⟨w.heap.size, 4, none⟩ = some (.string m) := (Q1.out.below B2.out).cell 4
  have y2_4 : w2.cell? ⟨w.heap.size + 1, 4, none⟩ = some (.string m') := (Q2.out.below B2.out).cell 4
  go_wp2_with fail
  go_at_call 32
  refine (stBare_low k h1 a b c p m a' b' c' p' m' _).mono ?_
  rintro e w3 ⟨rfl, hb⟩
  have B3 := hid (bt HW.out (bt B2.out hb))
  have R1 := hid (Q1.out.below (bt B2.out hb))
  have R2 := hid (Q2.out.below (bt B2.out hb))
  clear hb
  have t1 : w3.there w.heap.size 0 5 := there_blk R1.out 5 (Nat.le_refl 5)
  have S1 := hid (setCells_blk R1.out rfl a b c ByteArray.empty ByteArray.empty)
  have S2 := hid (setCells_other R2.out (Nat.succ_ne_self w.heap.size) a b c ByteArray.empty ByteArray.empty)
  have B4 := hid (setCells_below B3.out (Nat.le_refl _) a b c ByteArray.empty ByteArray.empty)
  go_wp2_with (first | (refine wpList_store_mid rfl 27 (.tmp 3) (.tmp 22) rfl w.heap.size 0 (scells a b c ByteArray.empty ByteArray.empty) (by rfl) (by rfl) t1 (by kernel_rfl) (by simp [Value.oneCell']) ?_; generalize w3.setCells w.heap.size 0 (scells a b c ByteArray.empty ByteArray.empty).toList = w4 at *; have t2 := there_blk S2.out 5 (Nat.le_refl 5)) | (refine wpList_store_mid rfl 27 (.tmp 5) (.tmp 23) rfl (w.heap.size + 1) 0 (scells a' b' c' ByteArray.empty ByteArray.empty) (by rfl) (by rfl) t2 (by kernel_rfl) (by simp [Value.oneCell']) ?_; have T1 := hid (setCells_other S1.out (Nat.succ_ne_self w.heap.size).symm a' b' c' ByteArray.empty ByteArray.empty); have T2 := hid (setCells_blk S2.out rfl a' b' c' ByteArray.empty ByteArray.empty); have B5 := hid (setCells_below B4.out (Nat.le_succ _) a' b' c' ByteArray.empty ByteArray.empty); generalize w4.setCells (w.heap.size + 1) 0 (scells a' b' c' ByteArray.empty ByteArray.empty).toList = w5 at *; have x5_0 : w5.cell? ⟨w.heap.size, 0, none⟩ = some (.int .u64 a) := T1.out.cell 0; have y5_0 : w5.cell? ⟨w.heap.size + 1, 0, none⟩ = some (.int .u64 a') := T2.out.cell 0; have x5_1 : w5.cell? ⟨w.heap.size, 1, none⟩ = some (.int .u64 b) := T1.out.cell 1; have y5_1 : w5.cell? ⟨w.heap.size + 1, 1, none⟩ = some (.int .u64 b') := T2.out.cell 1; have x5_2 : w5.cell? ⟨w.heap.size, 2, none⟩ = some (.int .u64 c) := T1.out.cell 2; have y5_2 : w5.cell? ⟨w.heap.size + 1, 2, none⟩ = some (.int .u64 c') := T2.out.cell 2; have x5_3 : w5.cell? ⟨w.heap.size, 3, none⟩ = some (.string ByteArray.empty) := T1.out.cell 3; have y5_3 : w5.cell? ⟨w.heap.size + 1, 3, none⟩ = some (.string ByteArray.empty) := T2.out.cell 3; have x5_4 : w5.cell? ⟨w.heap.size, 4, none⟩ = some (.string ByteArray.empty) := T1.out.cell 4; have y5_4 : w5.cell? ⟨w.heap.size + 1, 4, none⟩ = some (.string ByteArray.empty) := T2.out.cell 4) | fail)
  go_ret
  exact ⟨rfl, B5.out⟩

set_option maxHeartbeats 800000 in
set_option maxRecDepth 100000 in
theorem apart_high (a b c : Int) (p m : ByteArray) (k : Int) (a' b' c' : Int) (p' m' : ByteArray) (w : World) (hp : p.size ≤ maxLen) (hm : m.size ≤ maxLen) (hp' : p'.size ≤ maxLen) (hm' : m'.size ≤ maxLen) (hv : Vars w) (f1 : fitB p m = true) (f2 : fitB p' m' = true) (h1 : 1 ≤ k) (h3 : 3 < k) :
    Calls Tryd.prog 9 #[.agg (scells a b c p m), .int .i64 k, .agg (scells a' b' c' p' m')] w fun e w' => e = .returned (.bool true) ∧ Below w.heap.size w w' := by
  have BW : Below w.heap.size w ((w.alloc (.cells (scells a b c p m) 27)).alloc (.cells (scells a' b' c' p' m') 27)) := by go_grown
  have HW := hid BW
  obtain ⟨q1, q2⟩ := two_new w (scells a b c p m) (scells a' b' c' p' m') 27 27
  have Q1 := hid q1
  have Q2 := hid q2
  have B0 := hid (Below.refl ((w.alloc (.cells (scells a b c p m) 27)).alloc (.cells (scells a' b' c' p' m') 27)).heap.size ((w.alloc (.cells (scells a b c p m) 27)).alloc (.cells (scells a' b' c' p' m') 27)))
  have HV := hid hv
  clear BW q1 q2 hv
  go_enter Tryd.func9, Tryd.ntmps9
  go_wp2_with fail
  go_at_call 17
  refine (fitB_any a b c p m _ hp hm).mono ?_
  rintro e w1 ⟨rfl, hb⟩
  have B1 := hid (bt B0.out hb)
  clear hb
  have x1_0 : w1.cell? ⟨w.heap.size, 0, none⟩ = some (.int .u64 a) := (Q1.out.below B1.out).cell 0
  have y1_0 : w1.cell? ⟨w.heap.size + 1, 0, none⟩ = some (.int .u64 a') := (Q2.out.below B1.out).cell 0
  have x1_1 : w1.cell? ⟨w.heap.size, 1, none⟩ = some (.int .u64 b) := (Q1.out.below B1.out).cell 1
  have y1_1 : w1.cell? ⟨w.heap.size + 1, 1, none⟩ = some (.int .u64 b') := (Q2.out.below B1.out).cell 1
  have x1_2 : w1.cell? ⟨w.heap.size, 2, none⟩ = some (.int .u64 c) := (Q1.out.below B1.out).cell 2
  have y1_2 : w1.cell? ⟨w.heap.size + 1, 2, none⟩ = some (.int .u64 c') := (Q2.out.below B1.out).cell 2
  have x1_3 : w1.cell? ⟨w.heap.size, 3, none⟩ = some (.string p) := (Q1.out.below B1.out).cell 3
  have y1_3 : w1.cell? ⟨w.heap.size + 1, 3, none⟩ = some (.string p') := (Q2.out.below B1.out).cell 3
  have x1_4 : w1.cell? ⟨w.heap.size, 4, none⟩ = some (.string m) := (Q1.out.below B1.out).cell 4
  have y1_4 : w1.cell? ⟨w.heap.size + 1, 4, none⟩ = some (.string m') := (Q2.out.below B1.out).cell 4
  go_wp2_with fail
  go_at_call 17
  refine (fitB_any a' b' c' p' m' _ hp' hm').mono ?_
  rintro e w2 ⟨rfl, hb⟩
  have B2 := hid (bt B1.out hb)
  clear hb
  have x2_0 : w2.cell? ⟨w.heap.size, 0, none⟩ = some (.int .u64 a) := (Q1.out.below B2.out).cell 0
  have y2_0 : w2.cell? ⟨w.heap.size + 1, 0, none⟩ = some (.int .u64 a') := (Q2.out.below B2.out).cell 0
  have x2_1 : w2.cell? ⟨w.heap.size, 1, none⟩ = some (.int .u64 b) := (Q1.out.below B2.out).cell 1
  have y2_1 : w2.cell? ⟨w.heap.size + 1, 1, none⟩ = some (.int .u64 b') := (Q2.out.below B2.out).cell 1
  have x2_2 : w2.cell? ⟨w.heap.size, 2, none⟩ = some (.int .u64 c) := (Q1.out.below B2.out).cell 2
  have y2_2 : w2.cell? ⟨w.heap.size + 1, 2, none⟩ = some (.int .u64 c') := (Q2.out.below B2.out).cell 2
  have x2_3 : w2.cell? ⟨w.heap.size, 3, none⟩ = some (.string p) := (Q1.out.below B2.out).cell 3
  have y2_3 : w2.cell? ⟨w.heap.size + 1, 3, none⟩ = some (.string p') := (Q2.out.below B2.out).cell 3
  have x2_4 : w2.cell? ⟨w.heap.size, 4, none⟩ = some (.string m) := (Q1.out.below B2.out).cell 4
  have y2_4 : w2.cell? ⟨w.heap.size + 1, 4, none⟩ = some (.string m') := (Q2.out.below B2.out).cell 4
  go_wp2_with fail
  go_at_call 32
  refine (stBare_high k h1 h3 a b c p m a' b' c' p' m' _).mono ?_
  rintro e w3 ⟨rfl, hb⟩
  have B3 := hid (bt HW.out (bt B2.out hb))
  have R1 := hid (Q1.out.below (bt B2.out hb))
  have R2 := hid (Q2.out.below (bt B2.out hb))
  clear hb
  have t1 : w3.there w.heap.size 0 5 := there_blk R1.out 5 (Nat.le_refl 5)
  have S1 := hid (setCells_blk R1.out rfl a b c ByteArray.empty ByteArray.empty)
  have S2 := hid (setCells_other R2.out (Nat.succ_ne_self w.heap.size) a b c ByteArray.empty ByteArray.empty)
  have B4 := hid (setCells_below B3.out (Nat.le_refl _) a b c ByteArray.empty ByteArray.empty)
  go_wp2_with (first | (refine wpList_store_mid rfl 27 (.tmp 3) (.tmp 22) rfl w.heap.size 0 (scells a b c ByteArray.empty ByteArray.empty) (by rfl) (by rfl) t1 (by kernel_rfl) (by simp [Value.oneCell']) ?_; generalize w3.setCells w.heap.size 0 (scells a b c ByteArray.empty ByteArray.empty).toList = w4 at *; have t2 := there_blk S2.out 5 (Nat.le_refl 5)) | (refine wpList_store_mid rfl 27 (.tmp 5) (.tmp 23) rfl (w.heap.size + 1) 0 (scells a' b' c' ByteArray.empty ByteArray.empty) (by rfl) (by rfl) t2 (by kernel_rfl) (by simp [Value.oneCell']) ?_; have T1 := hid (setCells_other S1.out (Nat.succ_ne_self w.heap.size).symm a' b' c' ByteArray.empty ByteArray.empty); have T2 := hid (setCells_blk S2.out rfl a' b' c' ByteArray.empty ByteArray.empty); have B5 := hid (setCells_below B4.out (Nat.le_succ _) a' b' c' ByteArray.empty ByteArray.empty); generalize w4.setCells (w.heap.size + 1) 0 (scells a' b' c' ByteArray.empty ByteArray.empty).toList = w5 at *; have x5_0 : w5.cell? ⟨w.heap.size, 0, none⟩ = some (.int .u64 a) := T1.out.cell 0; have y5_0 : w5.cell? ⟨w.heap.size + 1, 0, none⟩ = some (.int .u64 a') := T2.out.cell 0; have x5_1 : w5.cell? ⟨w.heap.size, 1, none⟩ = some (.int .u64 b) := T1.out.cell 1; have y5_1 : w5.cell? ⟨w.heap.size + 1, 1, none⟩ = some (.int .u64 b') := T2.out.cell 1; have x5_2 : w5.cell? ⟨w.heap.size, 2, none⟩ = some (.int .u64 c) := T1.out.cell 2; have y5_2 : w5.cell? ⟨w.heap.size + 1, 2, none⟩ = some (.int .u64 c') := T2.out.cell 2; have x5_3 : w5.cell? ⟨w.heap.size, 3, none⟩ = some (.string ByteArray.empty) := T1.out.cell 3; have y5_3 : w5.cell? ⟨w.heap.size + 1, 3, none⟩ = some (.string ByteArray.empty) := T2.out.cell 3; have x5_4 : w5.cell? ⟨w.heap.size, 4, none⟩ = some (.string ByteArray.empty) := T1.out.cell 4; have y5_4 : w5.cell? ⟨w.heap.size + 1, 4, none⟩ = some (.string ByteArray.empty) := T2.out.cell 4) | fail)
  go_ret
  exact ⟨rfl, B5.out⟩

set_option maxHeartbeats 800000 in
set_option maxRecDepth 100000 in
theorem apart_three (a b c : Int) (p m : ByteArray) (a' b' c' : Int) (p' m' : ByteArray) (w : World) (hp : p.size ≤ maxLen) (hm : m.size ≤ maxLen) (hp' : p'.size ≤ maxLen) (hm' : m'.size ≤ maxLen) (hv : Vars w) (f1 : fitB p m = true) (f2 : fitB p' m' = true) :
    Calls Tryd.prog 9 #[.agg (scells a b c p m), .int .i64 3, .agg (scells a' b' c' p' m')] w fun e w' => e = .returned (.bool true) ∧ Below w.heap.size w w' := by
  have BW : Below w.heap.size w ((w.alloc (.cells (scells a b c p m) 27)).alloc (.cells (scells a' b' c' p' m') 27)) := by go_grown
  have HW := hid BW
  obtain ⟨q1, q2⟩ := two_new w (scells a b c p m) (scells a' b' c' p' m') 27 27
  have Q1 := hid q1
  have Q2 := hid q2
  have B0 := hid (Below.refl ((w.alloc (.cells (scells a b c p m) 27)).alloc (.cells (scells a' b' c' p' m') 27)).heap.size ((w.alloc (.cells (scells a b c p m) 27)).alloc (.cells (scells a' b' c' p' m') 27)))
  have HV := hid hv
  clear BW q1 q2 hv
  go_enter Tryd.func9, Tryd.ntmps9
  go_wp2_with fail
  go_at_call 17
  refine (fitB_any a b c p m _ hp hm).mono ?_
  rintro e w1 ⟨rfl, hb⟩
  have B1 := hid (bt B0.out hb)
  clear hb
  have x1_0 : w1.cell? ⟨w.heap.size, 0, none⟩ = some (.int .u64 a) := (Q1.out.below B1.out).cell 0
  have y1_0 : w1.cell? ⟨w.heap.size + 1, 0, none⟩ = some (.int .u64 a') := (Q2.out.below B1.out).cell 0
  have x1_1 : w1.cell? ⟨w.heap.size, 1, none⟩ = some (.int .u64 b) := (Q1.out.below B1.out).cell 1
  have y1_1 : w1.cell? ⟨w.heap.size + 1, 1, none⟩ = some (.int .u64 b') := (Q2.out.below B1.out).cell 1
  have x1_2 : w1.cell? ⟨w.heap.size, 2, none⟩ = some (.int .u64 c) := (Q1.out.below B1.out).cell 2
  have y1_2 : w1.cell? ⟨w.heap.size + 1, 2, none⟩ = some (.int .u64 c') := (Q2.out.below B1.out).cell 2
  have x1_3 : w1.cell? ⟨w.heap.size, 3, none⟩ = some (.string p) := (Q1.out.below B1.out).cell 3
  have y1_3 : w1.cell? ⟨w.heap.size + 1, 3, none⟩ = some (.string p') := (Q2.out.below B1.out).cell 3
  have x1_4 : w1.cell? ⟨w.heap.size, 4, none⟩ = some (.string m) := (Q1.out.below B1.out).cell 4
  have y1_4 : w1.cell? ⟨w.heap.size + 1, 4, none⟩ = some (.string m') := (Q2.out.below B1.out).cell 4
  go_wp2_with fail
  go_at_call 17
  refine (fitB_any a' b' c' p' m' _ hp' hm').mono ?_
  rintro e w2 ⟨rfl, hb⟩
  have B2 := hid (bt B1.out hb)
  clear hb
  have x2_0 : w2.cell? ⟨w.heap.size, 0, none⟩ = some (.int .u64 a) := (Q1.out.below B2.out).cell 0
  have y2_0 : w2.cell? ⟨w.heap.size + 1, 0, none⟩ = some (.int .u64 a') := (Q2.out.below B2.out).cell 0
  have x2_1 : w2.cell? ⟨w.heap.size, 1, none⟩ = some (.int .u64 b) := (Q1.out.below B2.out).cell 1
  have y2_1 : w2.cell? ⟨w.heap.size + 1, 1, none⟩ = some (.int .u64 b') := (Q2.out.below B2.out).cell 1
  have x2_2 : w2.cell? ⟨w.heap.size, 2, none⟩ = some (.int .u64 c) := (Q1.out.below B2.out).cell 2
  have y2_2 : w2.cell? ⟨w.heap.size + 1, 2, none⟩ = some (.int .u64 c') := (Q2.out.below B2.out).cell 2
  have x2_3 : w2.cell? ⟨w.heap.size, 3, none⟩ = some (.string p) := (Q1.out.below B2.out).cell 3
  have y2_3 : w2.cell? ⟨w.heap.size + 1, 3, none⟩ = some (.string p') := (Q2.out.below B2.out).cell 3
  have x2_4 : w2.cell? ⟨w.heap.size, 4, none⟩ = some (.string m) := (Q1.out.below B2.out).cell 4
  have y2_4 : w2.cell? ⟨w.heap.size + 1, 4, none⟩ = some (.string m') := (Q2.out.below B2.out).cell 4
  go_wp2_with fail
  go_at_call 32
  refine (stBare_yes 3 (by omega) (by omega) a b c p m a' b' c' p' m' _).mono ?_
  rintro e w3 ⟨rfl, hb⟩
  have B3 := hid (bt HW.out (bt B2.out hb))
  have R1 := hid (Q1.out.below (bt B2.out hb))
  have R2 := hid (Q2.out.below (bt B2.out hb))
  clear hb
  have t1 : w3.there w.heap.size 0 5 := there_blk R1.out 5 (Nat.le_refl 5)
  have S1 := hid (setCells_blk R1.out rfl a b c ByteArray.empty ByteArray.empty)
  have S2 := hid (setCells_other R2.out (Nat.succ_ne_self w.heap.size) a b c ByteArray.empty ByteArray.empty)
  have B4 := hid (setCells_below B3.out (Nat.le_refl _) a b c ByteArray.empty ByteArray.empty)
  go_wp2_with (first | (refine wpList_store_mid rfl 27 (.tmp 3) (.tmp 22) rfl w.heap.size 0 (scells a b c ByteArray.empty ByteArray.empty) (by rfl) (by rfl) t1 (by kernel_rfl) (by simp [Value.oneCell']) ?_; generalize w3.setCells w.heap.size 0 (scells a b c ByteArray.empty ByteArray.empty).toList = w4 at *; have t2 := there_blk S2.out 5 (Nat.le_refl 5)) | (refine wpList_store_mid rfl 27 (.tmp 5) (.tmp 23) rfl (w.heap.size + 1) 0 (scells a' b' c' ByteArray.empty ByteArray.empty) (by rfl) (by rfl) t2 (by kernel_rfl) (by simp [Value.oneCell']) ?_; have T1 := hid (setCells_other S1.out (Nat.succ_ne_self w.heap.size).symm a' b' c' ByteArray.empty ByteArray.empty); have T2 := hid (setCells_blk S2.out rfl a' b' c' ByteArray.empty ByteArray.empty); have B5 := hid (setCells_below B4.out (Nat.le_succ _) a' b' c' ByteArray.empty ByteArray.empty); generalize w4.setCells (w.heap.size + 1) 0 (scells a' b' c' ByteArray.empty ByteArray.empty).toList = w5 at *; have x5_0 : w5.cell? ⟨w.heap.size, 0, none⟩ = some (.int .u64 a) := T1.out.cell 0; have y5_0 : w5.cell? ⟨w.heap.size + 1, 0, none⟩ = some (.int .u64 a') := T2.out.cell 0; have x5_1 : w5.cell? ⟨w.heap.size, 1, none⟩ = some (.int .u64 b) := T1.out.cell 1; have y5_1 : w5.cell? ⟨w.heap.size + 1, 1, none⟩ = some (.int .u64 b') := T2.out.cell 1; have x5_2 : w5.cell? ⟨w.heap.size, 2, none⟩ = some (.int .u64 c) := T1.out.cell 2; have y5_2 : w5.cell? ⟨w.heap.size + 1, 2, none⟩ = some (.int .u64 c') := T2.out.cell 2; have x5_3 : w5.cell? ⟨w.heap.size, 3, none⟩ = some (.string ByteArray.empty) := T1.out.cell 3; have y5_3 : w5.cell? ⟨w.heap.size + 1, 3, none⟩ = some (.string ByteArray.empty) := T2.out.cell 3; have x5_4 : w5.cell? ⟨w.heap.size, 4, none⟩ = some (.string ByteArray.empty) := T1.out.cell 4; have y5_4 : w5.cell? ⟨w.heap.size + 1, 4, none⟩ = some (.string ByteArray.empty) := T2.out.cell 4) | fail)
  go_ret
  exact ⟨rfl, B5.out⟩

set_option maxHeartbeats 800000 in
set_option maxRecDepth 100000 in
theorem apart_one_t (a b c : Int) (p m : ByteArray) (a' b' c' : Int) (p' m' : ByteArray) (w : World) (hp : p.size ≤ maxLen) (hm : m.size ≤ maxLen) (hp' : p'.size ≤ maxLen) (hm' : m'.size ≤ maxLen) (hv : Vars w) (f1 : fitB p m = true) (f2 : fitB p' m' = true) (hq : (a == a') = true) (hr0 : ∀ g h, OpIs (opF 0) g h a' b' c' ByteArray.empty ByteArray.empty a (cutN 1 1 b) (cutN 1 2 c) (cutP 1 ByteArray.empty) ByteArray.empty (opS 0) ByteArray.empty (1 == 1) (decide (1 < 3)) (1 == 2) true true) (hr6 : ∀ g h, OpIs (opF 6) g h a' b' c' ByteArray.empty ByteArray.empty a (cutN 1 1 b) (cutN 1 2 c) (cutP 1 ByteArray.empty) ByteArray.empty (opS 6) ByteArray.empty (1 == 1) (decide (1 < 3)) (1 == 2) true true) :
    Calls Tryd.prog 9 #[.agg (scells a b c p m), .int .i64 1, .agg (scells a' b' c' p' m')] w fun e w' => e = .returned (.bool true) ∧ Below w.heap.size w w' := by
  have HR0 := hid hr0
  have HR6 := hid hr6
  clear hr0 hr6
  have BW : Below w.heap.size w ((w.alloc (.cells (scells a b c p m) 27)).alloc (.cells (scells a' b' c' p' m') 27)) := by go_grown
  have HW := hid BW
  obtain ⟨q1, q2⟩ := two_new w (scells a b c p m) (scells a' b' c' p' m') 27 27
  have Q1 := hid q1
  have Q2 := hid q2
  have B0 := hid (Below.refl ((w.alloc (.cells (scells a b c p m) 27)).alloc (.cells (scells a' b' c' p' m') 27)).heap.size ((w.alloc (.cells (scells a b c p m) 27)).alloc (.cells (scells a' b' c' p' m') 27)))
  have HV := hid hv
  clear BW q1 q2 hv
  go_enter Tryd.func9, Tryd.ntmps9
  go_wp2_with fail
  go_at_call 17
  refine (fitB_any a b c p m _ hp hm).mono ?_
  rintro e w1 ⟨rfl, hb⟩
  have B1 := hid (bt B0.out hb)
  clear hb
  have x1_0 : w1.cell? ⟨w.heap.size, 0, none⟩ = some (.int .u64 a) := (Q1.out.below B1.out).cell 0
  have y1_0 : w1.cell? ⟨w.heap.size + 1, 0, none⟩ = some (.int .u64 a') := (Q2.out.below B1.out).cell 0
  have x1_1 : w1.cell? ⟨w.heap.size, 1, none⟩ = some (.int .u64 b) := (Q1.out.below B1.out).cell 1
  have y1_1 : w1.cell? ⟨w.heap.size + 1, 1, none⟩ = some (.int .u64 b') := (Q2.out.below B1.out).cell 1
  have x1_2 : w1.cell? ⟨w.heap.size, 2, none⟩ = some (.int .u64 c) := (Q1.out.below B1.out).cell 2
  have y1_2 : w1.cell? ⟨w.heap.size + 1, 2, none⟩ = some (.int .u64 c') := (Q2.out.below B1.out).cell 2
  have x1_3 : w1.cell? ⟨w.heap.size, 3, none⟩ = some (.string p) := (Q1.out.below B1.out).cell 3
  have y1_3 : w1.cell? ⟨w.heap.size + 1, 3, none⟩ = some (.string p') := (Q2.out.below B1.out).cell 3
  have x1_4 : w1.cell? ⟨w.heap.size, 4, none⟩ = some (.string m) := (Q1.out.below B1.out).cell 4
  have y1_4 : w1.cell? ⟨w.heap.size + 1, 4, none⟩ = some (.string m') := (Q2.out.below B1.out).cell 4
  go_wp2_with fail
  go_at_call 17
  refine (fitB_any a' b' c' p' m' _ hp' hm').mono ?_
  rintro e w2 ⟨rfl, hb⟩
  have B2 := hid (bt B1.out hb)
  clear hb
  have x2_0 : w2.cell? ⟨w.heap.size, 0, none⟩ = some (.int .u64 a) := (Q1.out.below B2.out).cell 0
  have y2_0 : w2.cell? ⟨w.heap.size + 1, 0, none⟩ = some (.int .u64 a') := (Q2.out.below B2.out).cell 0
  have x2_1 : w2.cell? ⟨w.heap.size, 1, none⟩ = some (.int .u64 b) := (Q1.out.below B2.out).cell 1
  have y2_1 : w2.cell? ⟨w.heap.size + 1, 1, none⟩ = some (.int .u64 b') := (Q2.out.below B2.out).cell 1
  have x2_2 : w2.cell? ⟨w.heap.size, 2, none⟩ = some (.int .u64 c) := (Q1.out.below B2.out).cell 2
  have y2_2 : w2.cell? ⟨w.heap.size + 1, 2, none⟩ = some (.int .u64 c') := (Q2.out.below B2.out).cell 2
  have x2_3 : w2.cell? ⟨w.heap.size, 3, none⟩ = some (.string p) := (Q1.out.below B2.out).cell 3
  have y2_3 : w2.cell? ⟨w.heap.size + 1, 3, none⟩ = some (.string p') := (Q2.out.below B2.out).cell 3
  have x2_4 : w2.cell? ⟨w.heap.size, 4, none⟩ = some (.string m) := (Q1.out.below B2.out).cell 4
  have y2_4 : w2.cell? ⟨w.heap.size + 1, 4, none⟩ = some (.string m') := (Q2.out.below B2.out).cell 4
  go_wp2_with fail
  go_at_call 32
  refine (stBare_yes 1 (by omega) (by omega) a b c p m a' b' c' p' m' _).mono ?_
  rintro e w3 ⟨rfl, hb⟩
  have B3 := hid (bt HW.out (bt B2.out hb))
  have R1 := hid (Q1.out.below (bt B2.out hb))
  have R2 := hid (Q2.out.below (bt B2.out hb))
  clear hb
  have t1 : w3.there w.heap.size 0 5 := there_blk R1.out 5 (Nat.le_refl 5)
  have S1 := hid (setCells_blk R1.out rfl a b c ByteArray.empty ByteArray.empty)
  have S2 := hid (setCells_other R2.out (Nat.succ_ne_self w.heap.size) a b c ByteArray.empty ByteArray.empty)
  have B4 := hid (setCells_below B3.out (Nat.le_refl _) a b c ByteArray.empty ByteArray.empty)
  go_wp2_with (first | (refine wpList_store_mid rfl 27 (.tmp 3) (.tmp 22) rfl w.heap.size 0 (scells a b c ByteArray.empty ByteArray.empty) (by rfl) (by rfl) t1 (by kernel_rfl) (by simp [Value.oneCell']) ?_; generalize w3.setCells w.heap.size 0 (scells a b c ByteArray.empty ByteArray.empty).toList = w4 at *; have t2 := there_blk S2.out 5 (Nat.le_refl 5)) | (refine wpList_store_mid rfl 27 (.tmp 5) (.tmp 23) rfl (w.heap.size + 1) 0 (scells a' b' c' ByteArray.empty ByteArray.empty) (by rfl) (by rfl) t2 (by kernel_rfl) (by simp [Value.oneCell']) ?_; have T1 := hid (setCells_other S1.out (Nat.succ_ne_self w.heap.size).symm a' b' c' ByteArray.empty ByteArray.empty); have T2 := hid (setCells_blk S2.out rfl a' b' c' ByteArray.empty ByteArray.empty); have B5 := hid (setCells_below B4.out (Nat.le_succ _) a' b' c' ByteArray.empty ByteArray.empty); generalize w4.setCells (w.heap.size + 1) 0 (scells a' b' c' ByteArray.empty ByteArray.empty).toList = w5 at *; have x5_0 : w5.cell? ⟨w.heap.size, 0, none⟩ = some (.int .u64 a) := T1.out.cell 0; have y5_0 : w5.cell? ⟨w.heap.size + 1, 0, none⟩ = some (.int .u64 a') := T2.out.cell 0; have x5_1 : w5.cell? ⟨w.heap.size, 1, none⟩ = some (.int .u64 b) := T1.out.cell 1; have y5_1 : w5.cell? ⟨w.heap.size + 1, 1, none⟩ = some (.int .u64 b') := T2.out.cell 1; have x5_2 : w5.cell? ⟨w.heap.size, 2, none⟩ = some (.int .u64 c) := T1.out.cell 2; have y5_2 : w5.cell? ⟨w.heap.size + 1, 2, none⟩ = some (.int .u64 c') := T2.out.cell 2; have x5_3 : w5.cell? ⟨w.heap.size, 3, none⟩ = some (.string ByteArray.empty) := T1.out.cell 3; have y5_3 : w5.cell? ⟨w.heap.size + 1, 3, none⟩ = some (.string ByteArray.empty) := T2.out.cell 3; have x5_4 : w5.cell? ⟨w.heap.size, 4, none⟩ = some (.string ByteArray.empty) := T1.out.cell 4; have y5_4 : w5.cell? ⟨w.heap.size + 1, 4, none⟩ = some (.string ByteArray.empty) := T2.out.cell 4) | fail)
  go_at_call 33
  refine (stHolds_any 0 1 (by omega) (by omega) 0 1 rfl rfl a b c ByteArray.empty ByteArray.empty a' b' c' ByteArray.empty ByteArray.empty true _ (HV.out.below B5.out) HR0.out).mono ?_
  rintro e w6 ⟨rfl, hb⟩
  have B6 := hid (bt B5.out hb)
  have U6 := hid (T1.out.below hb)
  have V6 := hid (T2.out.below hb)
  clear hb
  have x6_0 : w6.cell? ⟨w.heap.size, 0, none⟩ = some (.int .u64 a) := U6.out.cell 0
  have y6_0 : w6.cell? ⟨w.heap.size + 1, 0, none⟩ = some (.int .u64 a') := V6.out.cell 0
  have x6_1 : w6.cell? ⟨w.heap.size, 1, none⟩ = some (.int .u64 b) := U6.out.cell 1
  have y6_1 : w6.cell? ⟨w.heap.size + 1, 1, none⟩ = some (.int .u64 b') := V6.out.cell 1
  have x6_2 : w6.cell? ⟨w.heap.size, 2, none⟩ = some (.int .u64 c) := U6.out.cell 2
  have y6_2 : w6.cell? ⟨w.heap.size + 1, 2, none⟩ = some (.int .u64 c') := V6.out.cell 2
  have x6_3 : w6.cell? ⟨w.heap.size, 3, none⟩ = some (.string ByteArray.empty) := U6.out.cell 3
  have y6_3 : w6.cell? ⟨w.heap.size + 1, 3, none⟩ = some (.string ByteArray.empty) := V6.out.cell 3
  have x6_4 : w6.cell? ⟨w.heap.size, 4, none⟩ = some (.string ByteArray.empty) := U6.out.cell 4
  have y6_4 : w6.cell? ⟨w.heap.size + 1, 4, none⟩ = some (.string ByteArray.empty) := V6.out.cell 4
  go_wp2_with fail
  go_at_call 33
  refine (stHolds_any 6 1 (by omega) (by omega) 6 1 rfl rfl a b c ByteArray.empty ByteArray.empty a' b' c' ByteArray.empty ByteArray.empty true _ (HV.out.below B6.out) HR6.out).mono ?_
  rintro e w7 ⟨rfl, hb⟩
  have B7 := hid (bt B6.out hb)
  have U7 := hid (U6.out.below hb)
  have V7 := hid (V6.out.below hb)
  clear hb
  have x7_0 : w7.cell? ⟨w.heap.size, 0, none⟩ = some (.int .u64 a) := U7.out.cell 0
  have y7_0 : w7.cell? ⟨w.heap.size + 1, 0, none⟩ = some (.int .u64 a') := V7.out.cell 0
  have x7_1 : w7.cell? ⟨w.heap.size, 1, none⟩ = some (.int .u64 b) := U7.out.cell 1
  have y7_1 : w7.cell? ⟨w.heap.size + 1, 1, none⟩ = some (.int .u64 b') := V7.out.cell 1
  have x7_2 : w7.cell? ⟨w.heap.size, 2, none⟩ = some (.int .u64 c) := U7.out.cell 2
  have y7_2 : w7.cell? ⟨w.heap.size + 1, 2, none⟩ = some (.int .u64 c') := V7.out.cell 2
  have x7_3 : w7.cell? ⟨w.heap.size, 3, none⟩ = some (.string ByteArray.empty) := U7.out.cell 3
  have y7_3 : w7.cell? ⟨w.heap.size + 1, 3, none⟩ = some (.string ByteArray.empty) := V7.out.cell 3
  have x7_4 : w7.cell? ⟨w.heap.size, 4, none⟩ = some (.string ByteArray.empty) := U7.out.cell 4
  have y7_4 : w7.cell? ⟨w.heap.size + 1, 4, none⟩ = some (.string ByteArray.empty) := V7.out.cell 4
  go_wp2_with fail
  go_ret
  exact ⟨rfl, B7.out⟩

set_option maxHeartbeats 800000 in
set_option maxRecDepth 100000 in
theorem apart_one_f (a b c : Int) (p m : ByteArray) (a' b' c' : Int) (p' m' : ByteArray) (w : World) (hp : p.size ≤ maxLen) (hm : m.size ≤ maxLen) (hp' : p'.size ≤ maxLen) (hm' : m'.size ≤ maxLen) (hv : Vars w) (f1 : fitB p m = true) (f2 : fitB p' m' = true) (hq : (a == a') = false) (hr0 : ∀ g h, OpIs (opF 0) g h a' b' c' ByteArray.empty ByteArray.empty a (cutN 1 1 b) (cutN 1 2 c) (cutP 1 ByteArray.empty) ByteArray.empty (opS 0) ByteArray.empty (1 == 1) (decide (1 < 3)) (1 == 2) true false) (hr6 : ∀ g h, OpIs (opF 6) g h a' b' c' ByteArray.empty ByteArray.empty a (cutN 1 1 b) (cutN 1 2 c) (cutP 1 ByteArray.empty) ByteArray.empty (opS 6) ByteArray.empty (1 == 1) (decide (1 < 3)) (1 == 2) true false) :
    Calls Tryd.prog 9 #[.agg (scells a b c p m), .int .i64 1, .agg (scells a' b' c' p' m')] w fun e w' => e = .returned (.bool true) ∧ Below w.heap.size w w' := by
  have HR0 := hid hr0
  have HR6 := hid hr6
  clear hr0 hr6
  have BW : Below w.heap.size w ((w.alloc (.cells (scells a b c p m) 27)).alloc (.cells (scells a' b' c' p' m') 27)) := by go_grown
  have HW := hid BW
  obtain ⟨q1, q2⟩ := two_new w (scells a b c p m) (scells a' b' c' p' m') 27 27
  have Q1 := hid q1
  have Q2 := hid q2
  have B0 := hid (Below.refl ((w.alloc (.cells (scells a b c p m) 27)).alloc (.cells (scells a' b' c' p' m') 27)).heap.size ((w.alloc (.cells (scells a b c p m) 27)).alloc (.cells (scells a' b' c' p' m') 27)))
  have HV := hid hv
  clear BW q1 q2 hv
  go_enter Tryd.func9, Tryd.ntmps9
  go_wp2_with fail
  go_at_call 17
  refine (fitB_any a b c p m _ hp hm).mono ?_
  rintro e w1 ⟨rfl, hb⟩
  have B1 := hid (bt B0.out hb)
  clear hb
  have x1_0 : w1.cell? ⟨w.heap.size, 0, none⟩ = some (.int .u64 a) := (Q1.out.below B1.out).cell 0
  have y1_0 : w1.cell? ⟨w.heap.size + 1, 0, none⟩ = some (.int .u64 a') := (Q2.out.below B1.out).cell 0
  have x1_1 : w1.cell? ⟨w.heap.size, 1, none⟩ = some (.int .u64 b) := (Q1.out.below B1.out).cell 1
  have y1_1 : w1.cell? ⟨w.heap.size + 1, 1, none⟩ = some (.int .u64 b') := (Q2.out.below B1.out).cell 1
  have x1_2 : w1.cell? ⟨w.heap.size, 2, none⟩ = some (.int .u64 c) := (Q1.out.below B1.out).cell 2
  have y1_2 : w1.cell? ⟨w.heap.size + 1, 2, none⟩ = some (.int .u64 c') := (Q2.out.below B1.out).cell 2
  have x1_3 : w1.cell? ⟨w.heap.size, 3, none⟩ = some (.string p) := (Q1.out.below B1.out).cell 3
  have y1_3 : w1.cell? ⟨w.heap.size + 1, 3, none⟩ = some (.string p') := (Q2.out.below B1.out).cell 3
  have x1_4 : w1.cell? ⟨w.heap.size, 4, none⟩ = some (.string m) := (Q1.out.below B1.out).cell 4
  have y1_4 : w1.cell? ⟨w.heap.size + 1, 4, none⟩ = some (.string m') := (Q2.out.below B1.out).cell 4
  go_wp2_with fail
  go_at_call 17
  refine (fitB_any a' b' c' p' m' _ hp' hm').mono ?_
  rintro e w2 ⟨rfl, hb⟩
  have B2 := hid (bt B1.out hb)
  clear hb
  have x2_0 : w2.cell? ⟨w.heap.size, 0, none⟩ = some (.int .u64 a) := (Q1.out.below B2.out).cell 0
  have y2_0 : w2.cell? ⟨w.heap.size + 1, 0, none⟩ = some (.int .u64 a') := (Q2.out.below B2.out).cell 0
  have x2_1 : w2.cell? ⟨w.heap.size, 1, none⟩ = some (.int .u64 b) := (Q1.out.below B2.out).cell 1
  have y2_1 : w2.cell? ⟨w.heap.size + 1, 1, none⟩ = some (.int .u64 b') := (Q2.out.below B2.out).cell 1
  have x2_2 : w2.cell? ⟨w.heap.size, 2, none⟩ = some (.int .u64 c) := (Q1.out.below B2.out).cell 2
  have y2_2 : w2.cell? ⟨w.heap.size + 1, 2, none⟩ = some (.int .u64 c') := (Q2.out.below B2.out).cell 2
  have x2_3 : w2.cell? ⟨w.heap.size, 3, none⟩ = some (.string p) := (Q1.out.below B2.out).cell 3
  have y2_3 : w2.cell? ⟨w.heap.size + 1, 3, none⟩ = some (.string p') := (Q2.out.below B2.out).cell 3
  have x2_4 : w2.cell? ⟨w.heap.size, 4, none⟩ = some (.string m) := (Q1.out.below B2.out).cell 4
  have y2_4 : w2.cell? ⟨w.heap.size + 1, 4, none⟩ = some (.string m') := (Q2.out.below B2.out).cell 4
  go_wp2_with fail
  go_at_call 32
  refine (stBare_yes 1 (by omega) (by omega) a b c p m a' b' c' p' m' _).mono ?_
  rintro e w3 ⟨rfl, hb⟩
  have B3 := hid (bt HW.out (bt B2.out hb))
  have R1 := hid (Q1.out.below (bt B2.out hb))
  have R2 := hid (Q2.out.below (bt B2.out hb))
  clear hb
  have t1 : w3.there w.heap.size 0 5 := there_blk R1.out 5 (Nat.le_refl 5)
  have S1 := hid (setCells_blk R1.out rfl a b c ByteArray.empty ByteArray.empty)
  have S2 := hid (setCells_other R2.out (Nat.succ_ne_self w.heap.size) a b c ByteArray.empty ByteArray.empty)
  have B4 := hid (setCells_below B3.out (Nat.le_refl _) a b c ByteArray.empty ByteArray.empty)
  go_wp2_with (first | (refine wpList_store_mid rfl 27 (.tmp 3) (.tmp 22) rfl w.heap.size 0 (scells a b c ByteArray.empty ByteArray.empty) (by rfl) (by rfl) t1 (by kernel_rfl) (by simp [Value.oneCell']) ?_; generalize w3.setCells w.heap.size 0 (scells a b c ByteArray.empty ByteArray.empty).toList = w4 at *; have t2 := there_blk S2.out 5 (Nat.le_refl 5)) | (refine wpList_store_mid rfl 27 (.tmp 5) (.tmp 23) rfl (w.heap.size + 1) 0 (scells a' b' c' ByteArray.empty ByteArray.empty) (by rfl) (by rfl) t2 (by kernel_rfl) (by simp [Value.oneCell']) ?_; have T1 := hid (setCells_other S1.out (Nat.succ_ne_self w.heap.size).symm a' b' c' ByteArray.empty ByteArray.empty); have T2 := hid (setCells_blk S2.out rfl a' b' c' ByteArray.empty ByteArray.empty); have B5 := hid (setCells_below B4.out (Nat.le_succ _) a' b' c' ByteArray.empty ByteArray.empty); generalize w4.setCells (w.heap.size + 1) 0 (scells a' b' c' ByteArray.empty ByteArray.empty).toList = w5 at *; have x5_0 : w5.cell? ⟨w.heap.size, 0, none⟩ = some (.int .u64 a) := T1.out.cell 0; have y5_0 : w5.cell? ⟨w.heap.size + 1, 0, none⟩ = some (.int .u64 a') := T2.out.cell 0; have x5_1 : w5.cell? ⟨w.heap.size, 1, none⟩ = some (.int .u64 b) := T1.out.cell 1; have y5_1 : w5.cell? ⟨w.heap.size + 1, 1, none⟩ = some (.int .u64 b') := T2.out.cell 1; have x5_2 : w5.cell? ⟨w.heap.size, 2, none⟩ = some (.int .u64 c) := T1.out.cell 2; have y5_2 : w5.cell? ⟨w.heap.size + 1, 2, none⟩ = some (.int .u64 c') := T2.out.cell 2; have x5_3 : w5.cell? ⟨w.heap.size, 3, none⟩ = some (.string ByteArray.empty) := T1.out.cell 3; have y5_3 : w5.cell? ⟨w.heap.size + 1, 3, none⟩ = some (.string ByteArray.empty) := T2.out.cell 3; have x5_4 : w5.cell? ⟨w.heap.size, 4, none⟩ = some (.string ByteArray.empty) := T1.out.cell 4; have y5_4 : w5.cell? ⟨w.heap.size + 1, 4, none⟩ = some (.string ByteArray.empty) := T2.out.cell 4) | fail)
  go_at_call 33
  refine (stHolds_any 0 1 (by omega) (by omega) 0 1 rfl rfl a b c ByteArray.empty ByteArray.empty a' b' c' ByteArray.empty ByteArray.empty false _ (HV.out.below B5.out) HR0.out).mono ?_
  rintro e w6 ⟨rfl, hb⟩
  have B6 := hid (bt B5.out hb)
  have U6 := hid (T1.out.below hb)
  have V6 := hid (T2.out.below hb)
  clear hb
  have x6_0 : w6.cell? ⟨w.heap.size, 0, none⟩ = some (.int .u64 a) := U6.out.cell 0
  have y6_0 : w6.cell? ⟨w.heap.size + 1, 0, none⟩ = some (.int .u64 a') := V6.out.cell 0
  have x6_1 : w6.cell? ⟨w.heap.size, 1, none⟩ = some (.int .u64 b) := U6.out.cell 1
  have y6_1 : w6.cell? ⟨w.heap.size + 1, 1, none⟩ = some (.int .u64 b') := V6.out.cell 1
  have x6_2 : w6.cell? ⟨w.heap.size, 2, none⟩ = some (.int .u64 c) := U6.out.cell 2
  have y6_2 : w6.cell? ⟨w.heap.size + 1, 2, none⟩ = some (.int .u64 c') := V6.out.cell 2
  have x6_3 : w6.cell? ⟨w.heap.size, 3, none⟩ = some (.string ByteArray.empty) := U6.out.cell 3
  have y6_3 : w6.cell? ⟨w.heap.size + 1, 3, none⟩ = some (.string ByteArray.empty) := V6.out.cell 3
  have x6_4 : w6.cell? ⟨w.heap.size, 4, none⟩ = some (.string ByteArray.empty) := U6.out.cell 4
  have y6_4 : w6.cell? ⟨w.heap.size + 1, 4, none⟩ = some (.string ByteArray.empty) := V6.out.cell 4
  go_wp2_with fail
  go_at_call 33
  refine (stHolds_any 6 1 (by omega) (by omega) 6 1 rfl rfl a b c ByteArray.empty ByteArray.empty a' b' c' ByteArray.empty ByteArray.empty false _ (HV.out.below B6.out) HR6.out).mono ?_
  rintro e w7 ⟨rfl, hb⟩
  have B7 := hid (bt B6.out hb)
  have U7 := hid (U6.out.below hb)
  have V7 := hid (V6.out.below hb)
  clear hb
  have x7_0 : w7.cell? ⟨w.heap.size, 0, none⟩ = some (.int .u64 a) := U7.out.cell 0
  have y7_0 : w7.cell? ⟨w.heap.size + 1, 0, none⟩ = some (.int .u64 a') := V7.out.cell 0
  have x7_1 : w7.cell? ⟨w.heap.size, 1, none⟩ = some (.int .u64 b) := U7.out.cell 1
  have y7_1 : w7.cell? ⟨w.heap.size + 1, 1, none⟩ = some (.int .u64 b') := V7.out.cell 1
  have x7_2 : w7.cell? ⟨w.heap.size, 2, none⟩ = some (.int .u64 c) := U7.out.cell 2
  have y7_2 : w7.cell? ⟨w.heap.size + 1, 2, none⟩ = some (.int .u64 c') := V7.out.cell 2
  have x7_3 : w7.cell? ⟨w.heap.size, 3, none⟩ = some (.string ByteArray.empty) := U7.out.cell 3
  have y7_3 : w7.cell? ⟨w.heap.size + 1, 3, none⟩ = some (.string ByteArray.empty) := V7.out.cell 3
  have x7_4 : w7.cell? ⟨w.heap.size, 4, none⟩ = some (.string ByteArray.empty) := U7.out.cell 4
  have y7_4 : w7.cell? ⟨w.heap.size + 1, 4, none⟩ = some (.string ByteArray.empty) := V7.out.cell 4
  go_wp2_with fail
  go_ret
  exact ⟨rfl, B7.out⟩

set_option maxHeartbeats 800000 in
set_option maxRecDepth 100000 in
theorem apart_two_a (a b c : Int) (p m : ByteArray) (a' b' c' : Int) (p' m' : ByteArray) (w : World) (hp : p.size ≤ maxLen) (hm : m.size ≤ maxLen) (hp' : p'.size ≤ maxLen) (hm' : m'.size ≤ maxLen) (hv : Vars w) (f1 : fitB p m = true) (f2 : fitB p' m' = true) (hq : (a == a') = false) (hr0 : ∀ g h, OpIs (opF 0) g h a' b' c' ByteArray.empty ByteArray.empty a (cutN 2 1 b) (cutN 2 2 c) (cutP 2 ByteArray.empty) ByteArray.empty (opS 0) ByteArray.empty (2 == 1) (decide (2 < 3)) (2 == 2) true false) (hr6 : ∀ g h, OpIs (opF 6) g h a' b' c' ByteArray.empty ByteArray.empty a (cutN 2 1 b) (cutN 2 2 c) (cutP 2 ByteArray.empty) ByteArray.empty (opS 6) ByteArray.empty (2 == 1) (decide (2 < 3)) (2 == 2) true false) :
    Calls Tryd.prog 9 #[.agg (scells a b c p m), .int .i64 2, .agg (scells a' b' c' p' m')] w fun e w' => e = .returned (.bool true) ∧ Below w.heap.size w w' := by
  have HR0 := hid hr0
  have HR6 := hid hr6
  clear hr0 hr6
  have BW : Below w.heap.size w ((w.alloc (.cells (scells a b c p m) 27)).alloc (.cells (scells a' b' c' p' m') 27)) := by go_grown
  have HW := hid BW
  obtain ⟨q1, q2⟩ := two_new w (scells a b c p m) (scells a' b' c' p' m') 27 27
  have Q1 := hid q1
  have Q2 := hid q2
  have B0 := hid (Below.refl ((w.alloc (.cells (scells a b c p m) 27)).alloc (.cells (scells a' b' c' p' m') 27)).heap.size ((w.alloc (.cells (scells a b c p m) 27)).alloc (.cells (scells a' b' c' p' m') 27)))
  have HV := hid hv
  clear BW q1 q2 hv
  go_enter Tryd.func9, Tryd.ntmps9
  go_wp2_with fail
  go_at_call 17
  refine (fitB_any a b c p m _ hp hm).mono ?_
  rintro e w1 ⟨rfl, hb⟩
  have B1 := hid (bt B0.out hb)
  clear hb
  have x1_0 : w1.cell? ⟨w.heap.size, 0, none⟩ = some (.int .u64 a) := (Q1.out.below B1.out).cell 0
  have y1_0 : w1.cell? ⟨w.heap.size + 1, 0, none⟩ = some (.int .u64 a') := (Q2.out.below B1.out).cell 0
  have x1_1 : w1.cell? ⟨w.heap.size, 1, none⟩ = some (.int .u64 b) := (Q1.out.below B1.out).cell 1
  have y1_1 : w1.cell? ⟨w.heap.size + 1, 1, none⟩ = some (.int .u64 b') := (Q2.out.below B1.out).cell 1
  have x1_2 : w1.cell? ⟨w.heap.size, 2, none⟩ = some (.int .u64 c) := (Q1.out.below B1.out).cell 2
  have y1_2 : w1.cell? ⟨w.heap.size + 1, 2, none⟩ = some (.int .u64 c') := (Q2.out.below B1.out).cell 2
  have x1_3 : w1.cell? ⟨w.heap.size, 3, none⟩ = some (.string p) := (Q1.out.below B1.out).cell 3
  have y1_3 : w1.cell? ⟨w.heap.size + 1, 3, none⟩ = some (.string p') := (Q2.out.below B1.out).cell 3
  have x1_4 : w1.cell? ⟨w.heap.size, 4, none⟩ = some (.string m) := (Q1.out.below B1.out).cell 4
  have y1_4 : w1.cell? ⟨w.heap.size + 1, 4, none⟩ = some (.string m') := (Q2.out.below B1.out).cell 4
  go_wp2_with fail
  go_at_call 17
  refine (fitB_any a' b' c' p' m' _ hp' hm').mono ?_
  rintro e w2 ⟨rfl, hb⟩
  have B2 := hid (bt B1.out hb)
  clear hb
  have x2_0 : w2.cell? ⟨w.heap.size, 0, none⟩ = some (.int .u64 a) := (Q1.out.below B2.out).cell 0
  have y2_0 : w2.cell? ⟨w.heap.size + 1, 0, none⟩ = some (.int .u64 a') := (Q2.out.below B2.out).cell 0
  have x2_1 : w2.cell? ⟨w.heap.size, 1, none⟩ = some (.int .u64 b) := (Q1.out.below B2.out).cell 1
  have y2_1 : w2.cell? ⟨w.heap.size + 1, 1, none⟩ = some (.int .u64 b') := (Q2.out.below B2.out).cell 1
  have x2_2 : w2.cell? ⟨w.heap.size, 2, none⟩ = some (.int .u64 c) := (Q1.out.below B2.out).cell 2
  have y2_2 : w2.cell? ⟨w.heap.size + 1, 2, none⟩ = some (.int .u64 c') := (Q2.out.below B2.out).cell 2
  have x2_3 : w2.cell? ⟨w.heap.size, 3, none⟩ = some (.string p) := (Q1.out.below B2.out).cell 3
  have y2_3 : w2.cell? ⟨w.heap.size + 1, 3, none⟩ = some (.string p') := (Q2.out.below B2.out).cell 3
  have x2_4 : w2.cell? ⟨w.heap.size, 4, none⟩ = some (.string m) := (Q1.out.below B2.out).cell 4
  have y2_4 : w2.cell? ⟨w.heap.size + 1, 4, none⟩ = some (.string m') := (Q2.out.below B2.out).cell 4
  go_wp2_with fail
  go_at_call 32
  refine (stBare_yes 2 (by omega) (by omega) a b c p m a' b' c' p' m' _).mono ?_
  rintro e w3 ⟨rfl, hb⟩
  have B3 := hid (bt HW.out (bt B2.out hb))
  have R1 := hid (Q1.out.below (bt B2.out hb))
  have R2 := hid (Q2.out.below (bt B2.out hb))
  clear hb
  have t1 : w3.there w.heap.size 0 5 := there_blk R1.out 5 (Nat.le_refl 5)
  have S1 := hid (setCells_blk R1.out rfl a b c ByteArray.empty ByteArray.empty)
  have S2 := hid (setCells_other R2.out (Nat.succ_ne_self w.heap.size) a b c ByteArray.empty ByteArray.empty)
  have B4 := hid (setCells_below B3.out (Nat.le_refl _) a b c ByteArray.empty ByteArray.empty)
  go_wp2_with (first | (refine wpList_store_mid rfl 27 (.tmp 3) (.tmp 22) rfl w.heap.size 0 (scells a b c ByteArray.empty ByteArray.empty) (by rfl) (by rfl) t1 (by kernel_rfl) (by simp [Value.oneCell']) ?_; generalize w3.setCells w.heap.size 0 (scells a b c ByteArray.empty ByteArray.empty).toList = w4 at *; have t2 := there_blk S2.out 5 (Nat.le_refl 5)) | (refine wpList_store_mid rfl 27 (.tmp 5) (.tmp 23) rfl (w.heap.size + 1) 0 (scells a' b' c' ByteArray.empty ByteArray.empty) (by rfl) (by rfl) t2 (by kernel_rfl) (by simp [Value.oneCell']) ?_; have T1 := hid (setCells_other S1.out (Nat.succ_ne_self w.heap.size).symm a' b' c' ByteArray.empty ByteArray.empty); have T2 := hid (setCells_blk S2.out rfl a' b' c' ByteArray.empty ByteArray.empty); have B5 := hid (setCells_below B4.out (Nat.le_succ _) a' b' c' ByteArray.empty ByteArray.empty); generalize w4.setCells (w.heap.size + 1) 0 (scells a' b' c' ByteArray.empty ByteArray.empty).toList = w5 at *; have x5_0 : w5.cell? ⟨w.heap.size, 0, none⟩ = some (.int .u64 a) := T1.out.cell 0; have y5_0 : w5.cell? ⟨w.heap.size + 1, 0, none⟩ = some (.int .u64 a') := T2.out.cell 0; have x5_1 : w5.cell? ⟨w.heap.size, 1, none⟩ = some (.int .u64 b) := T1.out.cell 1; have y5_1 : w5.cell? ⟨w.heap.size + 1, 1, none⟩ = some (.int .u64 b') := T2.out.cell 1; have x5_2 : w5.cell? ⟨w.heap.size, 2, none⟩ = some (.int .u64 c) := T1.out.cell 2; have y5_2 : w5.cell? ⟨w.heap.size + 1, 2, none⟩ = some (.int .u64 c') := T2.out.cell 2; have x5_3 : w5.cell? ⟨w.heap.size, 3, none⟩ = some (.string ByteArray.empty) := T1.out.cell 3; have y5_3 : w5.cell? ⟨w.heap.size + 1, 3, none⟩ = some (.string ByteArray.empty) := T2.out.cell 3; have x5_4 : w5.cell? ⟨w.heap.size, 4, none⟩ = some (.string ByteArray.empty) := T1.out.cell 4; have y5_4 : w5.cell? ⟨w.heap.size + 1, 4, none⟩ = some (.string ByteArray.empty) := T2.out.cell 4) | fail)
  go_at_call 33
  refine (stHolds_any 0 2 (by omega) (by omega) 0 2 rfl rfl a b c ByteArray.empty ByteArray.empty a' b' c' ByteArray.empty ByteArray.empty false _ (HV.out.below B5.out) HR0.out).mono ?_
  rintro e w6 ⟨rfl, hb⟩
  have B6 := hid (bt B5.out hb)
  have U6 := hid (T1.out.below hb)
  have V6 := hid (T2.out.below hb)
  clear hb
  have x6_0 : w6.cell? ⟨w.heap.size, 0, none⟩ = some (.int .u64 a) := U6.out.cell 0
  have y6_0 : w6.cell? ⟨w.heap.size + 1, 0, none⟩ = some (.int .u64 a') := V6.out.cell 0
  have x6_1 : w6.cell? ⟨w.heap.size, 1, none⟩ = some (.int .u64 b) := U6.out.cell 1
  have y6_1 : w6.cell? ⟨w.heap.size + 1, 1, none⟩ = some (.int .u64 b') := V6.out.cell 1
  have x6_2 : w6.cell? ⟨w.heap.size, 2, none⟩ = some (.int .u64 c) := U6.out.cell 2
  have y6_2 : w6.cell? ⟨w.heap.size + 1, 2, none⟩ = some (.int .u64 c') := V6.out.cell 2
  have x6_3 : w6.cell? ⟨w.heap.size, 3, none⟩ = some (.string ByteArray.empty) := U6.out.cell 3
  have y6_3 : w6.cell? ⟨w.heap.size + 1, 3, none⟩ = some (.string ByteArray.empty) := V6.out.cell 3
  have x6_4 : w6.cell? ⟨w.heap.size, 4, none⟩ = some (.string ByteArray.empty) := U6.out.cell 4
  have y6_4 : w6.cell? ⟨w.heap.size + 1, 4, none⟩ = some (.string ByteArray.empty) := V6.out.cell 4
  go_wp2_with fail
  go_at_call 33
  refine (stHolds_any 6 2 (by omega) (by omega) 6 2 rfl rfl a b c ByteArray.empty ByteArray.empty a' b' c' ByteArray.empty ByteArray.empty false _ (HV.out.below B6.out) HR6.out).mono ?_
  rintro e w7 ⟨rfl, hb⟩
  have B7 := hid (bt B6.out hb)
  have U7 := hid (U6.out.below hb)
  have V7 := hid (V6.out.below hb)
  clear hb
  have x7_0 : w7.cell? ⟨w.heap.size, 0, none⟩ = some (.int .u64 a) := U7.out.cell 0
  have y7_0 : w7.cell? ⟨w.heap.size + 1, 0, none⟩ = some (.int .u64 a') := V7.out.cell 0
  have x7_1 : w7.cell? ⟨w.heap.size, 1, none⟩ = some (.int .u64 b) := U7.out.cell 1
  have y7_1 : w7.cell? ⟨w.heap.size + 1, 1, none⟩ = some (.int .u64 b') := V7.out.cell 1
  have x7_2 : w7.cell? ⟨w.heap.size, 2, none⟩ = some (.int .u64 c) := U7.out.cell 2
  have y7_2 : w7.cell? ⟨w.heap.size + 1, 2, none⟩ = some (.int .u64 c') := V7.out.cell 2
  have x7_3 : w7.cell? ⟨w.heap.size, 3, none⟩ = some (.string ByteArray.empty) := U7.out.cell 3
  have y7_3 : w7.cell? ⟨w.heap.size + 1, 3, none⟩ = some (.string ByteArray.empty) := V7.out.cell 3
  have x7_4 : w7.cell? ⟨w.heap.size, 4, none⟩ = some (.string ByteArray.empty) := U7.out.cell 4
  have y7_4 : w7.cell? ⟨w.heap.size + 1, 4, none⟩ = some (.string ByteArray.empty) := V7.out.cell 4
  go_wp2_with fail
  go_ret
  exact ⟨rfl, B7.out⟩

set_option maxHeartbeats 800000 in
set_option maxRecDepth 100000 in
theorem apart_two_t (a b c : Int) (p m : ByteArray) (a' b' c' : Int) (p' m' : ByteArray) (w : World) (hp : p.size ≤ maxLen) (hm : m.size ≤ maxLen) (hp' : p'.size ≤ maxLen) (hm' : m'.size ≤ maxLen) (hv : Vars w) (f1 : fitB p m = true) (f2 : fitB p' m' = true) (hq : (a == a') = true) (hq2 : (b == b') = true) (hr0 : ∀ g h, OpIs (opF 0) g h a' b' c' ByteArray.empty ByteArray.empty a (cutN 2 1 b) (cutN 2 2 c) (cutP 2 ByteArray.empty) ByteArray.empty (opS 0) ByteArray.empty (2 == 1) (decide (2 < 3)) (2 == 2) true true) (hr6 : ∀ g h, OpIs (opF 6) g h a' b' c' ByteArray.empty ByteArray.empty a (cutN 2 1 b) (cutN 2 2 c) (cutP 2 ByteArray.empty) ByteArray.empty (opS 6) ByteArray.empty (2 == 1) (decide (2 < 3)) (2 == 2) true true) :
    Calls Tryd.prog 9 #[.agg (scells a b c p m), .int .i64 2, .agg (scells a' b' c' p' m')] w fun e w' => e = .returned (.bool true) ∧ Below w.heap.size w w' := by
  have HR0 := hid hr0
  have HR6 := hid hr6
  clear hr0 hr6
  have BW : Below w.heap.size w ((w.alloc (.cells (scells a b c p m) 27)).alloc (.cells (scells a' b' c' p' m') 27)) := by go_grown
  have HW := hid BW
  obtain ⟨q1, q2⟩ := two_new w (scells a b c p m) (scells a' b' c' p' m') 27 27
  have Q1 := hid q1
  have Q2 := hid q2
  have B0 := hid (Below.refl ((w.alloc (.cells (scells a b c p m) 27)).alloc (.cells (scells a' b' c' p' m') 27)).heap.size ((w.alloc (.cells (scells a b c p m) 27)).alloc (.cells (scells a' b' c' p' m') 27)))
  have HV := hid hv
  clear BW q1 q2 hv
  go_enter Tryd.func9, Tryd.ntmps9
  go_wp2_with fail
  go_at_call 17
  refine (fitB_any a b c p m _ hp hm).mono ?_
  rintro e w1 ⟨rfl, hb⟩
  have B1 := hid (bt B0.out hb)
  clear hb
  have x1_0 : w1.cell? ⟨w.heap.size, 0, none⟩ = some (.int .u64 a) := (Q1.out.below B1.out).cell 0
  have y1_0 : w1.cell? ⟨w.heap.size + 1, 0, none⟩ = some (.int .u64 a') := (Q2.out.below B1.out).cell 0
  have x1_1 : w1.cell? ⟨w.heap.size, 1, none⟩ = some (.int .u64 b) := (Q1.out.below B1.out).cell 1
  have y1_1 : w1.cell? ⟨w.heap.size + 1, 1, none⟩ = some (.int .u64 b') := (Q2.out.below B1.out).cell 1
  have x1_2 : w1.cell? ⟨w.heap.size, 2, none⟩ = some (.int .u64 c) := (Q1.out.below B1.out).cell 2
  have y1_2 : w1.cell? ⟨w.heap.size + 1, 2, none⟩ = some (.int .u64 c') := (Q2.out.below B1.out).cell 2
  have x1_3 : w1.cell? ⟨w.heap.size, 3, none⟩ = some (.string p) := (Q1.out.below B1.out).cell 3
  have y1_3 : w1.cell? ⟨w.heap.size + 1, 3, none⟩ = some (.string p') := (Q2.out.below B1.out).cell 3
  have x1_4 : w1.cell? ⟨w.heap.size, 4, none⟩ = some (.string m) := (Q1.out.below B1.out).cell 4
  have y1_4 : w1.cell? ⟨w.heap.size + 1, 4, none⟩ = some (.string m') := (Q2.out.below B1.out).cell 4
  go_wp2_with fail
  go_at_call 17
  refine (fitB_any a' b' c' p' m' _ hp' hm').mono ?_
  rintro e w2 ⟨rfl, hb⟩
  have B2 := hid (bt B1.out hb)
  clear hb
  have x2_0 : w2.cell? ⟨w.heap.size, 0, none⟩ = some (.int .u64 a) := (Q1.out.below B2.out).cell 0
  have y2_0 : w2.cell? ⟨w.heap.size + 1, 0, none⟩ = some (.int .u64 a') := (Q2.out.below B2.out).cell 0
  have x2_1 : w2.cell? ⟨w.heap.size, 1, none⟩ = some (.int .u64 b) := (Q1.out.below B2.out).cell 1
  have y2_1 : w2.cell? ⟨w.heap.size + 1, 1, none⟩ = some (.int .u64 b') := (Q2.out.below B2.out).cell 1
  have x2_2 : w2.cell? ⟨w.heap.size, 2, none⟩ = some (.int .u64 c) := (Q1.out.below B2.out).cell 2
  have y2_2 : w2.cell? ⟨w.heap.size + 1, 2, none⟩ = some (.int .u64 c') := (Q2.out.below B2.out).cell 2
  have x2_3 : w2.cell? ⟨w.heap.size, 3, none⟩ = some (.string p) := (Q1.out.below B2.out).cell 3
  have y2_3 : w2.cell? ⟨w.heap.size + 1, 3, none⟩ = some (.string p') := (Q2.out.below B2.out).cell 3
  have x2_4 : w2.cell? ⟨w.heap.size, 4, none⟩ = some (.string m) := (Q1.out.below B2.out).cell 4
  have y2_4 : w2.cell? ⟨w.heap.size + 1, 4, none⟩ = some (.string m') := (Q2.out.below B2.out).cell 4
  go_wp2_with fail
  go_at_call 32
  refine (stBare_yes 2 (by omega) (by omega) a b c p m a' b' c' p' m' _).mono ?_
  rintro e w3 ⟨rfl, hb⟩
  have B3 := hid (bt HW.out (bt B2.out hb))
  have R1 := hid (Q1.out.below (bt B2.out hb))
  have R2 := hid (Q2.out.below (bt B2.out hb))
  clear hb
  have t1 : w3.there w.heap.size 0 5 := there_blk R1.out 5 (Nat.le_refl 5)
  have S1 := hid (setCells_blk R1.out rfl a b c ByteArray.empty ByteArray.empty)
  have S2 := hid (setCells_other R2.out (Nat.succ_ne_self w.heap.size) a b c ByteArray.empty ByteArray.empty)
  have B4 := hid (setCells_below B3.out (Nat.le_refl _) a b c ByteArray.empty ByteArray.empty)
  go_wp2_with (first | (refine wpList_store_mid rfl 27 (.tmp 3) (.tmp 22) rfl w.heap.size 0 (scells a b c ByteArray.empty ByteArray.empty) (by rfl) (by rfl) t1 (by kernel_rfl) (by simp [Value.oneCell']) ?_; generalize w3.setCells w.heap.size 0 (scells a b c ByteArray.empty ByteArray.empty).toList = w4 at *; have t2 := there_blk S2.out 5 (Nat.le_refl 5)) | (refine wpList_store_mid rfl 27 (.tmp 5) (.tmp 23) rfl (w.heap.size + 1) 0 (scells a' b' c' ByteArray.empty ByteArray.empty) (by rfl) (by rfl) t2 (by kernel_rfl) (by simp [Value.oneCell']) ?_; have T1 := hid (setCells_other S1.out (Nat.succ_ne_self w.heap.size).symm a' b' c' ByteArray.empty ByteArray.empty); have T2 := hid (setCells_blk S2.out rfl a' b' c' ByteArray.empty ByteArray.empty); have B5 := hid (setCells_below B4.out (Nat.le_succ _) a' b' c' ByteArray.empty ByteArray.empty); generalize w4.setCells (w.heap.size + 1) 0 (scells a' b' c' ByteArray.empty ByteArray.empty).toList = w5 at *; have x5_0 : w5.cell? ⟨w.heap.size, 0, none⟩ = some (.int .u64 a) := T1.out.cell 0; have y5_0 : w5.cell? ⟨w.heap.size + 1, 0, none⟩ = some (.int .u64 a') := T2.out.cell 0; have x5_1 : w5.cell? ⟨w.heap.size, 1, none⟩ = some (.int .u64 b) := T1.out.cell 1; have y5_1 : w5.cell? ⟨w.heap.size + 1, 1, none⟩ = some (.int .u64 b') := T2.out.cell 1; have x5_2 : w5.cell? ⟨w.heap.size, 2, none⟩ = some (.int .u64 c) := T1.out.cell 2; have y5_2 : w5.cell? ⟨w.heap.size + 1, 2, none⟩ = some (.int .u64 c') := T2.out.cell 2; have x5_3 : w5.cell? ⟨w.heap.size, 3, none⟩ = some (.string ByteArray.empty) := T1.out.cell 3; have y5_3 : w5.cell? ⟨w.heap.size + 1, 3, none⟩ = some (.string ByteArray.empty) := T2.out.cell 3; have x5_4 : w5.cell? ⟨w.heap.size, 4, none⟩ = some (.string ByteArray.empty) := T1.out.cell 4; have y5_4 : w5.cell? ⟨w.heap.size + 1, 4, none⟩ = some (.string ByteArray.empty) := T2.out.cell 4) | fail)
  go_at_call 33
  refine (stHolds_any 0 2 (by omega) (by omega) 0 2 rfl rfl a b c ByteArray.empty ByteArray.empty a' b' c' ByteArray.empty ByteArray.empty true _ (HV.out.below B5.out) HR0.out).mono ?_
  rintro e w6 ⟨rfl, hb⟩
  have B6 := hid (bt B5.out hb)
  have U6 := hid (T1.out.below hb)
  have V6 := hid (T2.out.below hb)
  clear hb
  have x6_0 : w6.cell? ⟨w.heap.size, 0, none⟩ = some (.int .u64 a) := U6.out.cell 0
  have y6_0 : w6.cell? ⟨w.heap.size + 1, 0, none⟩ = some (.int .u64 a') := V6.out.cell 0
  have x6_1 : w6.cell? ⟨w.heap.size, 1, none⟩ = some (.int .u64 b) := U6.out.cell 1
  have y6_1 : w6.cell? ⟨w.heap.size + 1, 1, none⟩ = some (.int .u64 b') := V6.out.cell 1
  have x6_2 : w6.cell? ⟨w.heap.size, 2, none⟩ = some (.int .u64 c) := U6.out.cell 2
  have y6_2 : w6.cell? ⟨w.heap.size + 1, 2, none⟩ = some (.int .u64 c') := V6.out.cell 2
  have x6_3 : w6.cell? ⟨w.heap.size, 3, none⟩ = some (.string ByteArray.empty) := U6.out.cell 3
  have y6_3 : w6.cell? ⟨w.heap.size + 1, 3, none⟩ = some (.string ByteArray.empty) := V6.out.cell 3
  have x6_4 : w6.cell? ⟨w.heap.size, 4, none⟩ = some (.string ByteArray.empty) := U6.out.cell 4
  have y6_4 : w6.cell? ⟨w.heap.size + 1, 4, none⟩ = some (.string ByteArray.empty) := V6.out.cell 4
  go_wp2_with fail
  go_at_call 33
  refine (stHolds_any 6 2 (by omega) (by omega) 6 2 rfl rfl a b c ByteArray.empty ByteArray.empty a' b' c' ByteArray.empty ByteArray.empty true _ (HV.out.below B6.out) HR6.out).mono ?_
  rintro e w7 ⟨rfl, hb⟩
  have B7 := hid (bt B6.out hb)
  have U7 := hid (U6.out.below hb)
  have V7 := hid (V6.out.below hb)
  clear hb
  have x7_0 : w7.cell? ⟨w.heap.size, 0, none⟩ = some (.int .u64 a) := U7.out.cell 0
  have y7_0 : w7.cell? ⟨w.heap.size + 1, 0, none⟩ = some (.int .u64 a') := V7.out.cell 0
  have x7_1 : w7.cell? ⟨w.heap.size, 1, none⟩ = some (.int .u64 b) := U7.out.cell 1
  have y7_1 : w7.cell? ⟨w.heap.size + 1, 1, none⟩ = some (.int .u64 b') := V7.out.cell 1
  have x7_2 : w7.cell? ⟨w.heap.size, 2, none⟩ = some (.int .u64 c) := U7.out.cell 2
  have y7_2 : w7.cell? ⟨w.heap.size + 1, 2, none⟩ = some (.int .u64 c') := V7.out.cell 2
  have x7_3 : w7.cell? ⟨w.heap.size, 3, none⟩ = some (.string ByteArray.empty) := U7.out.cell 3
  have y7_3 : w7.cell? ⟨w.heap.size + 1, 3, none⟩ = some (.string ByteArray.empty) := V7.out.cell 3
  have x7_4 : w7.cell? ⟨w.heap.size, 4, none⟩ = some (.string ByteArray.empty) := U7.out.cell 4
  have y7_4 : w7.cell? ⟨w.heap.size + 1, 4, none⟩ = some (.string ByteArray.empty) := V7.out.cell 4
  go_wp2_with fail
  go_ret
  exact ⟨rfl, B7.out⟩

set_option maxHeartbeats 800000 in
set_option maxRecDepth 100000 in
theorem apart_two_f (a b c : Int) (p m : ByteArray) (a' b' c' : Int) (p' m' : ByteArray) (w : World) (hp : p.size ≤ maxLen) (hm : m.size ≤ maxLen) (hp' : p'.size ≤ maxLen) (hm' : m'.size ≤ maxLen) (hv : Vars w) (f1 : fitB p m = true) (f2 : fitB p' m' = true) (hq : (a == a') = true) (hq2 : (b == b') = false) (hr0 : ∀ g h, OpIs (opF 0) g h a' b' c' ByteArray.empty ByteArray.empty a (cutN 2 1 b) (cutN 2 2 c) (cutP 2 ByteArray.empty) ByteArray.empty (opS 0) ByteArray.empty (2 == 1) (decide (2 < 3)) (2 == 2) true false) (hr6 : ∀ g h, OpIs (opF 6) g h a' b' c' ByteArray.empty ByteArray.empty a (cutN 2 1 b) (cutN 2 2 c) (cutP 2 ByteArray.empty) ByteArray.empty (opS 6) ByteArray.empty (2 == 1) (decide (2 < 3)) (2 == 2) true false) :
    Calls Tryd.prog 9 #[.agg (scells a b c p m), .int .i64 2, .agg (scells a' b' c' p' m')] w fun e w' => e = .returned (.bool true) ∧ Below w.heap.size w w' := by
  have HR0 := hid hr0
  have HR6 := hid hr6
  clear hr0 hr6
  have BW : Below w.heap.size w ((w.alloc (.cells (scells a b c p m) 27)).alloc (.cells (scells a' b' c' p' m') 27)) := by go_grown
  have HW := hid BW
  obtain ⟨q1, q2⟩ := two_new w (scells a b c p m) (scells a' b' c' p' m') 27 27
  have Q1 := hid q1
  have Q2 := hid q2
  have B0 := hid (Below.refl ((w.alloc (.cells (scells a b c p m) 27)).alloc (.cells (scells a' b' c' p' m') 27)).heap.size ((w.alloc (.cells (scells a b c p m) 27)).alloc (.cells (scells a' b' c' p' m') 27)))
  have HV := hid hv
  clear BW q1 q2 hv
  go_enter Tryd.func9, Tryd.ntmps9
  go_wp2_with fail
  go_at_call 17
  refine (fitB_any a b c p m _ hp hm).mono ?_
  rintro e w1 ⟨rfl, hb⟩
  have B1 := hid (bt B0.out hb)
  clear hb
  have x1_0 : w1.cell? ⟨w.heap.size, 0, none⟩ = some (.int .u64 a) := (Q1.out.below B1.out).cell 0
  have y1_0 : w1.cell? ⟨w.heap.size + 1, 0, none⟩ = some (.int .u64 a') := (Q2.out.below B1.out).cell 0
  have x1_1 : w1.cell? ⟨w.heap.size, 1, none⟩ = some (.int .u64 b) := (Q1.out.below B1.out).cell 1
  have y1_1 : w1.cell? ⟨w.heap.size + 1, 1, none⟩ = some (.int .u64 b') := (Q2.out.below B1.out).cell 1
  have x1_2 : w1.cell? ⟨w.heap.size, 2, none⟩ = some (.int .u64 c) := (Q1.out.below B1.out).cell 2
  have y1_2 : w1.cell? ⟨w.heap.size + 1, 2, none⟩ = some (.int .u64 c') := (Q2.out.below B1.out).cell 2
  have x1_3 : w1.cell? ⟨w.heap.size, 3, none⟩ = some (.string p) := (Q1.out.below B1.out).cell 3
  have y1_3 : w1.cell? ⟨w.heap.size + 1, 3, none⟩ = some (.string p') := (Q2.out.below B1.out).cell 3
  have x1_4 : w1.cell? ⟨w.heap.size, 4, none⟩ = some (.string m) := (Q1.out.below B1.out).cell 4
  have y1_4 : w1.cell? ⟨w.heap.size + 1, 4, none⟩ = some (.string m') := (Q2.out.below B1.out).cell 4
  go_wp2_with fail
  go_at_call 17
  refine (fitB_any a' b' c' p' m' _ hp' hm').mono ?_
  rintro e w2 ⟨rfl, hb⟩
  have B2 := hid (bt B1.out hb)
  clear hb
  have x2_0 : w2.cell? ⟨w.heap.size, 0, none⟩ = some (.int .u64 a) := (Q1.out.below B2.out).cell 0
  have y2_0 : w2.cell? ⟨w.heap.size + 1, 0, none⟩ = some (.int .u64 a') := (Q2.out.below B2.out).cell 0
  have x2_1 : w2.cell? ⟨w.heap.size, 1, none⟩ = some (.int .u64 b) := (Q1.out.below B2.out).cell 1
  have y2_1 : w2.cell? ⟨w.heap.size + 1, 1, none⟩ = some (.int .u64 b') := (Q2.out.below B2.out).cell 1
  have x2_2 : w2.cell? ⟨w.heap.size, 2, none⟩ = some (.int .u64 c) := (Q1.out.below B2.out).cell 2
  have y2_2 : w2.cell? ⟨w.heap.size + 1, 2, none⟩ = some (.int .u64 c') := (Q2.out.below B2.out).cell 2
  have x2_3 : w2.cell? ⟨w.heap.size, 3, none⟩ = some (.string p) := (Q1.out.below B2.out).cell 3
  have y2_3 : w2.cell? ⟨w.heap.size + 1, 3, none⟩ = some (.string p') := (Q2.out.below B2.out).cell 3
  have x2_4 : w2.cell? ⟨w.heap.size, 4, none⟩ = some (.string m) := (Q1.out.below B2.out).cell 4
  have y2_4 : w2.cell? ⟨w.heap.size + 1, 4, none⟩ = some (.string m') := (Q2.out.below B2.out).cell 4
  go_wp2_with fail
  go_at_call 32
  refine (stBare_yes 2 (by omega) (by omega) a b c p m a' b' c' p' m' _).mono ?_
  rintro e w3 ⟨rfl, hb⟩
  have B3 := hid (bt HW.out (bt B2.out hb))
  have R1 := hid (Q1.out.below (bt B2.out hb))
  have R2 := hid (Q2.out.below (bt B2.out hb))
  clear hb
  have t1 : w3.there w.heap.size 0 5 := there_blk R1.out 5 (Nat.le_refl 5)
  have S1 := hid (setCells_blk R1.out rfl a b c ByteArray.empty ByteArray.empty)
  have S2 := hid (setCells_other R2.out (Nat.succ_ne_self w.heap.size) a b c ByteArray.empty ByteArray.empty)
  have B4 := hid (setCells_below B3.out (Nat.le_refl _) a b c ByteArray.empty ByteArray.empty)
  go_wp2_with (first | (refine wpList_store_mid rfl 27 (.tmp 3) (.tmp 22) rfl w.heap.size 0 (scells a b c ByteArray.empty ByteArray.empty) (by rfl) (by rfl) t1 (by kernel_rfl) (by simp [Value.oneCell']) ?_; generalize w3.setCells w.heap.size 0 (scells a b c ByteArray.empty ByteArray.empty).toList = w4 at *; have t2 := there_blk S2.out 5 (Nat.le_refl 5)) | (refine wpList_store_mid rfl 27 (.tmp 5) (.tmp 23) rfl (w.heap.size + 1) 0 (scells a' b' c' ByteArray.empty ByteArray.empty) (by rfl) (by rfl) t2 (by kernel_rfl) (by simp [Value.oneCell']) ?_; have T1 := hid (setCells_other S1.out (Nat.succ_ne_self w.heap.size).symm a' b' c' ByteArray.empty ByteArray.empty); have T2 := hid (setCells_blk S2.out rfl a' b' c' ByteArray.empty ByteArray.empty); have B5 := hid (setCells_below B4.out (Nat.le_succ _) a' b' c' ByteArray.empty ByteArray.empty); generalize w4.setCells (w.heap.size + 1) 0 (scells a' b' c' ByteArray.empty ByteArray.empty).toList = w5 at *; have x5_0 : w5.cell? ⟨w.heap.size, 0, none⟩ = some (.int .u64 a) := T1.out.cell 0; have y5_0 : w5.cell? ⟨w.heap.size + 1, 0, none⟩ = some (.int .u64 a') := T2.out.cell 0; have x5_1 : w5.cell? ⟨w.heap.size, 1, none⟩ = some (.int .u64 b) := T1.out.cell 1; have y5_1 : w5.cell? ⟨w.heap.size + 1, 1, none⟩ = some (.int .u64 b') := T2.out.cell 1; have x5_2 : w5.cell? ⟨w.heap.size, 2, none⟩ = some (.int .u64 c) := T1.out.cell 2; have y5_2 : w5.cell? ⟨w.heap.size + 1, 2, none⟩ = some (.int .u64 c') := T2.out.cell 2; have x5_3 : w5.cell? ⟨w.heap.size, 3, none⟩ = some (.string ByteArray.empty) := T1.out.cell 3; have y5_3 : w5.cell? ⟨w.heap.size + 1, 3, none⟩ = some (.string ByteArray.empty) := T2.out.cell 3; have x5_4 : w5.cell? ⟨w.heap.size, 4, none⟩ = some (.string ByteArray.empty) := T1.out.cell 4; have y5_4 : w5.cell? ⟨w.heap.size + 1, 4, none⟩ = some (.string ByteArray.empty) := T2.out.cell 4) | fail)
  go_at_call 33
  refine (stHolds_any 0 2 (by omega) (by omega) 0 2 rfl rfl a b c ByteArray.empty ByteArray.empty a' b' c' ByteArray.empty ByteArray.empty false _ (HV.out.below B5.out) HR0.out).mono ?_
  rintro e w6 ⟨rfl, hb⟩
  have B6 := hid (bt B5.out hb)
  have U6 := hid (T1.out.below hb)
  have V6 := hid (T2.out.below hb)
  clear hb
  have x6_0 : w6.cell? ⟨w.heap.size, 0, none⟩ = some (.int .u64 a) := U6.out.cell 0
  have y6_0 : w6.cell? ⟨w.heap.size + 1, 0, none⟩ = some (.int .u64 a') := V6.out.cell 0
  have x6_1 : w6.cell? ⟨w.heap.size, 1, none⟩ = some (.int .u64 b) := U6.out.cell 1
  have y6_1 : w6.cell? ⟨w.heap.size + 1, 1, none⟩ = some (.int .u64 b') := V6.out.cell 1
  have x6_2 : w6.cell? ⟨w.heap.size, 2, none⟩ = some (.int .u64 c) := U6.out.cell 2
  have y6_2 : w6.cell? ⟨w.heap.size + 1, 2, none⟩ = some (.int .u64 c') := V6.out.cell 2
  have x6_3 : w6.cell? ⟨w.heap.size, 3, none⟩ = some (.string ByteArray.empty) := U6.out.cell 3
  have y6_3 : w6.cell? ⟨w.heap.size + 1, 3, none⟩ = some (.string ByteArray.empty) := V6.out.cell 3
  have x6_4 : w6.cell? ⟨w.heap.size, 4, none⟩ = some (.string ByteArray.empty) := U6.out.cell 4
  have y6_4 : w6.cell? ⟨w.heap.size + 1, 4, none⟩ = some (.string ByteArray.empty) := V6.out.cell 4
  go_wp2_with fail
  go_at_call 33
  refine (stHolds_any 6 2 (by omega) (by omega) 6 2 rfl rfl a b c ByteArray.empty ByteArray.empty a' b' c' ByteArray.empty ByteArray.empty false _ (HV.out.below B6.out) HR6.out).mono ?_
  rintro e w7 ⟨rfl, hb⟩
  have B7 := hid (bt B6.out hb)
  have U7 := hid (U6.out.below hb)
  have V7 := hid (V6.out.below hb)
  clear hb
  have x7_0 : w7.cell? ⟨w.heap.size, 0, none⟩ = some (.int .u64 a) := U7.out.cell 0
  have y7_0 : w7.cell? ⟨w.heap.size + 1, 0, none⟩ = some (.int .u64 a') := V7.out.cell 0
  have x7_1 : w7.cell? ⟨w.heap.size, 1, none⟩ = some (.int .u64 b) := U7.out.cell 1
  have y7_1 : w7.cell? ⟨w.heap.size + 1, 1, none⟩ = some (.int .u64 b') := V7.out.cell 1
  have x7_2 : w7.cell? ⟨w.heap.size, 2, none⟩ = some (.int .u64 c) := U7.out.cell 2
  have y7_2 : w7.cell? ⟨w.heap.size + 1, 2, none⟩ = some (.int .u64 c') := V7.out.cell 2
  have x7_3 : w7.cell? ⟨w.heap.size, 3, none⟩ = some (.string ByteArray.empty) := U7.out.cell 3
  have y7_3 : w7.cell? ⟨w.heap.size + 1, 3, none⟩ = some (.string ByteArray.empty) := V7.out.cell 3
  have x7_4 : w7.cell? ⟨w.heap.size, 4, none⟩ = some (.string ByteArray.empty) := U7.out.cell 4
  have y7_4 : w7.cell? ⟨w.heap.size + 1, 4, none⟩ = some (.string ByteArray.empty) := V7.out.cell 4
  go_wp2_with fail
  go_ret
  exact ⟨rfl, B7.out⟩

end Go.Proofs.YtmlbjcdildaldaaDoor

set_option linter.unusedVariables false
set_option linter.unusedSimpArgs false
namespace Go.Proofs.YtmlbjcdildaldaaDoor
open Go.RowKit

theorem cmpV_nil (n : Int) : cmpV n [] [] = n := by
  unfold cmpV preCmp
  by_cases h : n = 0 <;> simp [h]
theorem empty_list : (ByteArray.empty).toList = [] := by rw [ByteArray.toList_eq]; rfl
theorem preBar_empty (pre : Bool) : preBar ByteArray.empty pre = false := by
  unfold preBar
  rw [empty_list]
  rfl
theorem wild_one (o : Nat) (ho : o = 0 ∨ o = 6) (a b c x : Int) (rb : 0 ≤ b) (rc : 0 ≤ c) : opV o a b c ByteArray.empty x 0 0 ByteArray.empty 1 true = (x == a) := by
  have e : opV o a b c ByteArray.empty x 0 0 ByteArray.empty 1 true = opTilde false (num3 a b c x 0 0) a b x 0 0 true false := by
    rcases ho with rfl | rfl <;> simp [opV, opR, opEq, preBar_empty, empty_list, cmpV_nil]
  rw [e]
  unfold opTilde
  by_cases h : a = x
  · subst h
    have hn : ¬ num3 a b c a 0 0 < 0 := by
      rcases num3_cases a b c a 0 0 with h1 | h1 | h1 <;> omega
    simp [hn]
  · have h2 : (x == a) = false := by simpa using Ne.symm h
    rw [h2]
    simp [h]
theorem wild_two (o : Nat) (ho : o = 0 ∨ o = 6) (a b c x y : Int) (rc : 0 ≤ c) : opV o a b c ByteArray.empty x y 0 ByteArray.empty 2 true = (x == a && y == b) := by
  have e : opV o a b c ByteArray.empty x y 0 ByteArray.empty 2 true = opTilde false (num3 a b c x y 0) a b x y 0 false true := by
    rcases ho with rfl | rfl <;> simp [opV, opR, opEq, preBar_empty, empty_list, cmpV_nil]
  rw [e]
  unfold opTilde
  by_cases h : a = x
  · subst h
    by_cases h' : b = y
    · subst h'
      have hn : ¬ num3 a b c a b 0 < 0 := by
        rcases num3_cases a b c a b 0 with h1 | h1 | h1 <;> omega
      simp [hn]
    · have h2 : (y == b) = false := by simpa using Ne.symm h'
      rw [h2]
      simp [h']
  · have h2 : (x == a) = false := by simpa using Ne.symm h
    rw [h2]
    simp [h]

theorem fnSemverTermApart_walk (a b c : Int) (p m : ByteArray) (k : Int) (a' b' c' : Int) (p' m' : ByteArray) (w : World) (wa : (Lit.int .u64 a).wf = true) (wb : (Lit.int .u64 b).wf = true) (wc : (Lit.int .u64 c).wf = true) (hp : p.size ≤ maxLen) (hm : m.size ≤ maxLen) (wk : (Lit.int .i64 k).wf = true)
    (wa' : (Lit.int .u64 a').wf = true) (wb' : (Lit.int .u64 b').wf = true) (wc' : (Lit.int .u64 c').wf = true) (hp' : p'.size ≤ maxLen) (hm' : m'.size ≤ maxLen) (hv : Vars w) :
    Calls Tryd.prog 9 #[.agg (scells a b c p m), .int .i64 k, .agg (scells a' b' c' p' m')] w fun e w' => e = .returned (.bool true) ∧ Below w.heap.size w w' := by
  have ra := wf_u64 wa
  have rb := wf_u64 wb
  have rc := wf_u64 wc
  have ra' := wf_u64 wa'
  have rb' := wf_u64 wb'
  have rc' := wf_u64 wc'
  cases f1 : fitB p m
  · exact apart_unfit1 a b c p m k a' b' c' p' m' w hp hm hp' hm' hv f1
  cases f2 : fitB p' m'
  · exact apart_unfit2 a b c p m k a' b' c' p' m' w hp hm hp' hm' hv f1 f2
  by_cases h1 : k < 1
  · exact apart_low a b c p m k a' b' c' p' m' w hp hm hp' hm' hv f1 f2 h1
  by_cases h3 : 3 < k
  · exact apart_high a b c p m k a' b' c' p' m' w hp hm hp' hm' hv f1 f2 (by omega) h3
  have hz : (ByteArray.empty).size ≤ 2147483647 := by decide
  have op : ∀ (o : Nat), o < 8 → ∀ (j : Nat) (y z : Int), 0 ≤ y → ∀ g h, OpIs (opF o) g h a' b' c' ByteArray.empty ByteArray.empty a y z ByteArray.empty ByteArray.empty (opS o) ByteArray.empty (j == 1) (decide (j < 3)) (j == 2) true (opV o a' b' c' ByteArray.empty a y z ByteArray.empty j true) :=
    fun o ho j y z hy g h => opIs_any o ho j a' b' c' ByteArray.empty ByteArray.empty a y z ByteArray.empty ByteArray.empty (opS o) ByteArray.empty true hz hz (fun _ => by rw [empty_list]; rfl) ra'.1 rb'.1 ra.1 hy g h
  obtain rfl | rfl | rfl : k = 1 ∨ k = 2 ∨ k = 3 := by omega
  · have l0 := wild_one 0 (.inl rfl) a' b' c' a rb'.1 rc'.1
    have l6 := wild_one 6 (.inr rfl) a' b' c' a rb'.1 rc'.1
    have o0 := op 0 (by omega) 1 0 0 (by omega)
    have o6 := op 6 (by omega) 1 0 0 (by omega)
    cases hq : (a == a') <;> rw [hq] at l0 l6
    · exact apart_one_f a b c p m a' b' c' p' m' w hp hm hp' hm' hv f1 f2 hq (fun g h => by have q := o0 g h; rw [l0] at q; exact q) (fun g h => by have q := o6 g h; rw [l6] at q; exact q)
    · exact apart_one_t a b c p m a' b' c' p' m' w hp hm hp' hm' hv f1 f2 hq (fun g h => by have q := o0 g h; rw [l0] at q; exact q) (fun g h => by have q := o6 g h; rw [l6] at q; exact q)
  · have l0 := wild_two 0 (.inl rfl) a' b' c' a b rc'.1
    have l6 := wild_two 6 (.inr rfl) a' b' c' a b rc'.1
    have o0 := op 0 (by omega) 2 b 0 rb.1
    have o6 := op 6 (by omega) 2 b 0 rb.1
    cases hq : (a == a') <;> rw [hq] at l0 l6
    · exact apart_two_a a b c p m a' b' c' p' m' w hp hm hp' hm' hv f1 f2 hq (fun g h => by have q := o0 g h; rw [l0] at q; exact q) (fun g h => by have q := o6 g h; rw [l6] at q; exact q)
    · cases hq2 : (b == b') <;> rw [hq2] at l0 l6
      · exact apart_two_f a b c p m a' b' c' p' m' w hp hm hp' hm' hv f1 f2 hq hq2 (fun g h => by have q := o0 g h; rw [l0] at q; exact q) (fun g h => by have q := o6 g h; rw [l6] at q; exact q)
      · exact apart_two_t a b c p m a' b' c' p' m' w hp hm hp' hm' hv f1 f2 hq hq2 (fun g h => by have q := o0 g h; rw [l0] at q; exact q) (fun g h => by have q := o6 g h; rw [l6] at q; exact q)
  · exact apart_three a b c p m a' b' c' p' m' w hp hm hp' hm' hv f1 f2

end Go.Proofs.YtmlbjcdildaldaaDoor
