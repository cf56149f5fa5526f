/- The law FnSemverNextAfter, walked. -/
import Derived.Test.YtmlbjcdildaldaaDoorNumFirst
import Derived.Test.YtmlbjcdildaldaaDoorAfterB
import Derived.Test.YtmlbjcdildaldaaDoorNextQ
import Derived.WalkSpells
set_option linter.unusedVariables false
set_option linter.unusedSimpArgs false
namespace Go.Proofs.YtmlbjcdildaldaaDoor
open Go.RowKit

theorem keep15 {g h k : Nat} {a b c : Int} {p m : ByteArray} {a' b' c' : Int} {p' m' : ByteArray} {a2 b2 c2 : Int} {p2 : ByteArray} {w w' : World} (hs : w.cell? ⟨g, 0, none⟩ = some (.int .u64 a) ∧ w.cell? ⟨g, 1, none⟩ = some (.int .u64 b) ∧ w.cell? ⟨g, 2, none⟩ = some (.int .u64 c) ∧ w.cell? ⟨g, 3, none⟩ = some (.string p) ∧ w.cell? ⟨g, 4, none⟩ = some (.string m) ∧ w.cell? ⟨h, 0, none⟩ = some (.int .u64 a') ∧ w.cell? ⟨h, 1, none⟩ = some (.int .u64 b') ∧ w.cell? ⟨h, 2, none⟩ = some (.int .u64 c') ∧ w.cell? ⟨h, 3, none⟩ = some (.string p') ∧ w.cell? ⟨h, 4, none⟩ = some (.string m') ∧ w.cell? ⟨k, 0, none⟩ = some (.int .u64 a2) ∧ w.cell? ⟨k, 1, none⟩ = some (.int .u64 b2) ∧ w.cell? ⟨k, 2, none⟩ = some (.int .u64 c2) ∧ w.cell? ⟨k, 3, none⟩ = some (.string p2) ∧ w.cell? ⟨k, 4, none⟩ = some (.string ByteArray.empty)) (hb : Below w.heap.size w w') : w'.cell? ⟨g, 0, none⟩ = some (.int .u64 a) ∧ w'.cell? ⟨g, 1, none⟩ = some (.int .u64 b) ∧ w'.cell? ⟨g, 2, none⟩ = some (.int .u64 c) ∧ w'.cell? ⟨g, 3, none⟩ = some (.string p) ∧ w'.cell? ⟨g, 4, none⟩ = some (.string m) ∧ w'.cell? ⟨h, 0, none⟩ = some (.int .u64 a') ∧ w'.cell? ⟨h, 1, none⟩ = some (.int .u64 b') ∧ w'.cell? ⟨h, 2, none⟩ = some (.int .u64 c') ∧ w'.cell? ⟨h, 3, none⟩ = some (.string p') ∧ w'.cell? ⟨h, 4, none⟩ = some (.string m') ∧ w'.cell? ⟨k, 0, none⟩ = some (.int .u64 a2) ∧ w'.cell? ⟨k, 1, none⟩ = some (.int .u64 b2) ∧ w'.cell? ⟨k, 2, none⟩ = some (.int .u64 c2) ∧ w'.cell? ⟨k, 3, none⟩ = some (.string p2) ∧ w'.cell? ⟨k, 4, none⟩ = some (.string ByteArray.empty) := by
  obtain ⟨y0, y1, y2, y3, y4, y5, y6, y7, y8, y9, y10, y11, y12, y13, y14⟩ := hs
  exact ⟨cell_later hb y0, cell_later hb y1, cell_later hb y2, cell_later hb y3, cell_later hb y4, cell_later hb y5, cell_later hb y6, cell_later hb y7, cell_later hb y8, cell_later hb y9, cell_later hb y10, cell_later hb y11, cell_later hb y12, cell_later hb y13, cell_later hb y14⟩

theorem compare_any (a b c : Int) (p m : ByteArray) (a' b' c' : Int) (p' m' : ByteArray) (sp : p.size ≤ 2147483647) (sp' : p'.size ≤ 2147483647) (g h : Nat) (w : World) (hx : V6 w g a b c p m) (hy : V6 w h a' b' c' p' m') (hv : Vars w) :
    Calls Tryd.prog 60 #[.pointer (some ⟨g, 0, none⟩), .pointer (some ⟨h, 0, none⟩)] w fun e w' => e = .returned (.int .i64 (cmpV (num3 a b c a' b' c') p.toList p'.toList)) ∧ Below w.heap.size w w' := by
  have e3 := first3 a b c a' b' c'
  unfold cmpV
  by_cases hn : num3 a b c a' b' c' = 0
  · rw [if_pos hn]
    have h1 : segC a a' = 0 ∧ segC b b' = 0 ∧ segC c c' = 0 := by
      unfold num3 at hn
      by_cases h1 : segC a a' = 0
      · rw [if_pos h1] at hn
        by_cases h2 : segC b b' = 0
        · rw [if_pos h2] at hn; exact ⟨h1, h2, hn⟩
        · rw [if_neg h2] at hn; exact absurd hn h2
      · rw [if_neg h1] at hn; exact absurd hn h1
    obtain ⟨z1, z2, z3⟩ := h1
    unfold preCmp
    by_cases hp : p.toList = []
    · have ep : p.toList.isEmpty = true := by rw [hp]; rfl
      rw [if_pos hp]
      by_cases hq : p'.toList = []
      · rw [if_pos hq]
        exact compare_none g h a b c p m a' b' c' p' m' w hx hy z1 z2 z3 ep (by rw [hq]; rfl)
      · rw [if_neg hq]
        exact compare_release g h a b c p m a' b' c' p' m' w hx hy z1 z2 z3 ep (by simpa using hq)
    · have ep : p.toList.isEmpty = false := by simpa using hp
      rw [if_neg hp]
      by_cases hq : p'.toList = []
      · rw [if_pos hq]
        exact compare_early g h a b c p m a' b' c' p' m' w hx hy z1 z2 z3 ep (by rw [hq]; rfl)
      · rw [if_neg hq]
        exact compare_pres g h a b c p m a' b' c' p' m' w hx hy z1 z2 z3 ep (by simpa using hq) hv _ (fun W hW => comparePre_any p p' W sp sp' hW)
  · rw [if_neg hn]
    have := compare_nums g h a b c p m a' b' c' p' m' w hx hy (by rw [e3]; exact hn)
    rw [e3] at this
    exact this

set_option maxRecDepth 100000 in
theorem next_unfit1 (a b c : Int) (p m : ByteArray) (a' b' c' : Int) (p' m' : ByteArray) (w : World) (hp : p.size ≤ maxLen) (hm : m.size ≤ maxLen) (hp' : p'.size ≤ maxLen) (hm' : m'.size ≤ maxLen) (hv : Vars w) (f1 : fitB p m = false) :
    Calls Tryd.prog 5 #[.agg (scells a b c p m), .agg (scells a' b' c' p' m')] w fun e w' => e = .returned (.bool true) ∧ Below w.heap.size w w' := by
  have B0 := hid (Below.refl ((w.alloc (.cells (scells a b c p m) 27)).alloc (.cells (scells a' b' c' p' m') 27)).heap.size ((w.alloc (.cells (scells a b c p m) 27)).alloc (.cells (scells a' b' c' p' m') 27)))
  have BW : Below w.heap.size w ((w.alloc (.cells (scells a b c p m) 27)).alloc (.cells (scells a' b' c' p' m') 27)) := by go_grown
  have HW := hid BW
  clear BW
  go_enter Tryd.func5, Tryd.ntmps5
  go_wp2_with fail
  go_at_call 17
  refine (fitB_any a b c p m _ hp hm).mono ?_
  rintro e w1 ⟨rfl, hb⟩
  have B1 := hid (bt B0.out hb)
  clear hb
  obtain ⟨x1_0, x1_1, x1_2, x1_3, x1_4, x1_5, x1_6, x1_7, x1_8, x1_9⟩ := keep10 (t := 27) B1.out
  go_wp2_with fail
  go_ret
  exact ⟨rfl, bt HW.out B1.out⟩

set_option maxRecDepth 100000 in
theorem next_unfit2 (a b c : Int) (p m : ByteArray) (a' b' c' : Int) (p' m' : ByteArray) (w : World) (hp : p.size ≤ maxLen) (hm : m.size ≤ maxLen) (hp' : p'.size ≤ maxLen) (hm' : m'.size ≤ maxLen) (hv : Vars w) (f1 : fitB p m = true) (f2 : fitB p' m' = false) :
    Calls Tryd.prog 5 #[.agg (scells a b c p m), .agg (scells a' b' c' p' m')] w fun e w' => e = .returned (.bool true) ∧ Below w.heap.size w w' := by
  have B0 := hid (Below.refl ((w.alloc (.cells (scells a b c p m) 27)).alloc (.cells (scells a' b' c' p' m') 27)).heap.size ((w.alloc (.cells (scells a b c p m) 27)).alloc (.cells (scells a' b' c' p' m') 27)))
  have BW : Below w.heap.size w ((w.alloc (.cells (scells a b c p m) 27)).alloc (.cells (scells a' b' c' p' m') 27)) := by go_grown
  have HW := hid BW
  clear BW
  go_enter Tryd.func5, Tryd.ntmps5
  go_wp2_with fail
  go_at_call 17
  refine (fitB_any a b c p m _ hp hm).mono ?_
  rintro e w1 ⟨rfl, hb⟩
  have B1 := hid (bt B0.out hb)
  clear hb
  obtain ⟨x1_0, x1_1, x1_2, x1_3, x1_4, x1_5, x1_6, x1_7, x1_8, x1_9⟩ := keep10 (t := 27) B1.out
  go_wp2_with fail
  go_at_call 17
  refine (fitB_any a' b' c' p' m' _ hp' hm').mono ?_
  rintro e w2 ⟨rfl, hb⟩
  have B2 := hid (bt B1.out hb)
  clear hb
  obtain ⟨x2_0, x2_1, x2_2, x2_3, x2_4, x2_5, x2_6, x2_7, x2_8, x2_9⟩ := keep10 (t := 27) B2.out
  go_wp2_with fail
  go_ret
  exact ⟨rfl, bt HW.out B2.out⟩

set_option maxRecDepth 100000 in
theorem next_none (a b c : Int) (p m : ByteArray) (a' b' c' : Int) (p' m' : ByteArray) (w : World) (hp : p.size ≤ maxLen) (hm : m.size ≤ maxLen) (hp' : p'.size ≤ maxLen) (hm' : m'.size ≤ maxLen) (hv : Vars w) (f1 : fitB p m = true) (f2 : fitB p' m' = true) (a2 b2 c2 : Int) (p2 : ByteArray) (ha : ∀ W, Calls Tryd.prog 21 #[.agg (scells a b c p m)] W fun e w' => e = .returned (.tuple #[.agg (scells a2 b2 c2 p2 ByteArray.empty), .bool false]) ∧ Below W.heap.size W w') :
    Calls Tryd.prog 5 #[.agg (scells a b c p m), .agg (scells a' b' c' p' m')] w fun e w' => e = .returned (.bool true) ∧ Below w.heap.size w w' := by
  obtain ⟨s1, s2⟩ := fitB_size f1
  obtain ⟨s1', s2'⟩ := fitB_size f2
  have HA := hid ha
  clear ha
  have B0 := hid (Below.refl ((w.alloc (.cells (scells a b c p m) 27)).alloc (.cells (scells a' b' c' p' m') 27)).heap.size ((w.alloc (.cells (scells a b c p m) 27)).alloc (.cells (scells a' b' c' p' m') 27)))
  have BW : Below w.heap.size w ((w.alloc (.cells (scells a b c p m) 27)).alloc (.cells (scells a' b' c' p' m') 27)) := by go_grown
  have HW := hid BW
  clear BW
  go_enter Tryd.func5, Tryd.ntmps5
  go_wp2_with fail
  go_at_call 17
  refine (fitB_any a b c p m _ hp hm).mono ?_
  rintro e w1 ⟨rfl, hb⟩
  have B1 := hid (bt B0.out hb)
  clear hb
  obtain ⟨x1_0, x1_1, x1_2, x1_3, x1_4, x1_5, x1_6, x1_7, x1_8, x1_9⟩ := keep10 (t := 27) B1.out
  go_wp2_with fail
  go_at_call 17
  refine (fitB_any a' b' c' p' m' _ hp' hm').mono ?_
  rintro e w2 ⟨rfl, hb⟩
  have B2 := hid (bt B1.out hb)
  clear hb
  obtain ⟨x2_0, x2_1, x2_2, x2_3, x2_4, x2_5, x2_6, x2_7, x2_8, x2_9⟩ := keep10 (t := 27) B2.out
  go_wp2_with fail
  go_at_call 21
  refine (HA.out _).mono ?_
  rintro e w3 ⟨rfl, hb⟩
  have B3 := hid (bt B2.out hb)
  clear hb
  obtain ⟨x3_0, x3_1, x3_2, x3_3, x3_4, x3_5, x3_6, x3_7, x3_8, x3_9⟩ := keep10 (t := 27) B3.out
  obtain ⟨z0, z1, z2, z3, z4, z5, z6, z7, z8, z9⟩ := keep10 (t := 27) (B3.out.alloc B3.out.size (.cells #[.int .u64 a2, .int .u64 b2, .int .u64 c2, .string p2, .string ByteArray.empty] 27))
  go_wp2_with fail
  go_ret
  exact ⟨rfl, bt HW.out (B3.out.alloc B3.out.size _)⟩

set_option maxRecDepth 100000 in
theorem next_bad (a b c : Int) (p m : ByteArray) (a' b' c' : Int) (p' m' : ByteArray) (w : World) (hp : p.size ≤ maxLen) (hm : m.size ≤ maxLen) (hp' : p'.size ≤ maxLen) (hm' : m'.size ≤ maxLen) (hv : Vars w) (f1 : fitB p m = true) (f2 : fitB p' m' = true) (a2 b2 c2 : Int) (p2 : ByteArray) (ha : ∀ W, Calls Tryd.prog 21 #[.agg (scells a b c p m)] W fun e w' => e = .returned (.tuple #[.agg (scells a2 b2 c2 p2 ByteArray.empty), .bool true]) ∧ Below W.heap.size W w') (f3 : ok2 p m p' m' = false) :
    Calls Tryd.prog 5 #[.agg (scells a b c p m), .agg (scells a' b' c' p' m')] w fun e w' => e = .returned (.bool true) ∧ Below w.heap.size w w' := by
  obtain ⟨s1, s2⟩ := fitB_size f1
  obtain ⟨s1', s2'⟩ := fitB_size f2
  have HA := hid ha
  clear ha
  have B0 := hid (Below.refl ((w.alloc (.cells (scells a b c p m) 27)).alloc (.cells (scells a' b' c' p' m') 27)).heap.size ((w.alloc (.cells (scells a b c p m) 27)).alloc (.cells (scells a' b' c' p' m') 27)))
  have BW : Below w.heap.size w ((w.alloc (.cells (scells a b c p m) 27)).alloc (.cells (scells a' b' c' p' m') 27)) := by go_grown
  have HW := hid BW
  clear BW
  go_enter Tryd.func5, Tryd.ntmps5
  go_wp2_with fail
  go_at_call 17
  refine (fitB_any a b c p m _ hp hm).mono ?_
  rintro e w1 ⟨rfl, hb⟩
  have B1 := hid (bt B0.out hb)
  clear hb
  obtain ⟨x1_0, x1_1, x1_2, x1_3, x1_4, x1_5, x1_6, x1_7, x1_8, x1_9⟩ := keep10 (t := 27) B1.out
  go_wp2_with fail
  go_at_call 17
  refine (fitB_any a' b' c' p' m' _ hp' hm').mono ?_
  rintro e w2 ⟨rfl, hb⟩
  have B2 := hid (bt B1.out hb)
  clear hb
  obtain ⟨x2_0, x2_1, x2_2, x2_3, x2_4, x2_5, x2_6, x2_7, x2_8, x2_9⟩ := keep10 (t := 27) B2.out
  go_wp2_with fail
  go_at_call 21
  refine (HA.out _).mono ?_
  rintro e w3 ⟨rfl, hb⟩
  have B3 := hid (bt B2.out hb)
  clear hb
  obtain ⟨x3_0, x3_1, x3_2, x3_3, x3_4, x3_5, x3_6, x3_7, x3_8, x3_9⟩ := keep10 (t := 27) B3.out
  obtain ⟨z0, z1, z2, z3, z4, z5, z6, z7, z8, z9⟩ := keep10 (t := 27) (B3.out.alloc B3.out.size (.cells #[.int .u64 a2, .int .u64 b2, .int .u64 c2, .string p2, .string ByteArray.empty] 27))
  go_wp2_with fail
  go_at_call 19
  refine (svGood2 a b c p m a' b' c' p' m' s1 s2 s1' s2' _ _ _ (by rw [World.size_alloc])).mono ?_
  rintro e w4 ⟨rfl, hb⟩
  have B4 := hid (bt ((B3.out.alloc B3.out.size _).alloc (Nat.le_trans B3.out.size (by simp)) _) hb)
  have N4 := hid (((Blk.new w3 27 (scells a2 b2 c2 p2 ByteArray.empty)).alloc _).below hb)
  clear hb
  obtain ⟨x4_0, x4_1, x4_2, x4_3, x4_4, x4_5, x4_6, x4_7, x4_8, x4_9⟩ := keep10 (t := 27) B4.out
  go_wp2_with fail
  go_ret
  exact ⟨rfl, bt HW.out B4.out⟩

set_option maxRecDepth 100000 in
theorem next_long (a b c : Int) (p m : ByteArray) (a' b' c' : Int) (p' m' : ByteArray) (w : World) (hp : p.size ≤ maxLen) (hm : m.size ≤ maxLen) (hp' : p'.size ≤ maxLen) (hm' : m'.size ≤ maxLen) (hv : Vars w) (f1 : fitB p m = true) (f2 : fitB p' m' = true) (a2 b2 c2 : Int) (p2 : ByteArray) (ha : ∀ W, Calls Tryd.prog 21 #[.agg (scells a b c p m)] W fun e w' => e = .returned (.tuple #[.agg (scells a2 b2 c2 p2 ByteArray.empty), .bool true]) ∧ Below W.heap.size W w') (f3 : ok2 p m p' m' = true) (f4 : 1000 < p.size) :
    Calls Tryd.prog 5 #[.agg (scells a b c p m), .agg (scells a' b' c' p' m')] w fun e w' => e = .returned (.bool true) ∧ Below w.heap.size w w' := by
  obtain ⟨s1, s2⟩ := fitB_size f1
  obtain ⟨s1', s2'⟩ := fitB_size f2
  have HA := hid ha
  clear ha
  have B0 := hid (Below.refl ((w.alloc (.cells (scells a b c p m) 27)).alloc (.cells (scells a' b' c' p' m') 27)).heap.size ((w.alloc (.cells (scells a b c p m) 27)).alloc (.cells (scells a' b' c' p' m') 27)))
  have BW : Below w.heap.size w ((w.alloc (.cells (scells a b c p m) 27)).alloc (.cells (scells a' b' c' p' m') 27)) := by go_grown
  have HW := hid BW
  clear BW
  go_enter Tryd.func5, Tryd.ntmps5
  go_wp2_with fail
  go_at_call 17
  refine (fitB_any a b c p m _ hp hm).mono ?_
  rintro e w1 ⟨rfl, hb⟩
  have B1 := hid (bt B0.out hb)
  clear hb
  obtain ⟨x1_0, x1_1, x1_2, x1_3, x1_4, x1_5, x1_6, x1_7, x1_8, x1_9⟩ := keep10 (t := 27) B1.out
  go_wp2_with fail
  go_at_call 17
  refine (fitB_any a' b' c' p' m' _ hp' hm').mono ?_
  rintro e w2 ⟨rfl, hb⟩
  have B2 := hid (bt B1.out hb)
  clear hb
  obtain ⟨x2_0, x2_1, x2_2, x2_3, x2_4, x2_5, x2_6, x2_7, x2_8, x2_9⟩ := keep10 (t := 27) B2.out
  go_wp2_with fail
  go_at_call 21
  refine (HA.out _).mono ?_
  rintro e w3 ⟨rfl, hb⟩
  have B3 := hid (bt B2.out hb)
  clear hb
  obtain ⟨x3_0, x3_1, x3_2, x3_3, x3_4, x3_5, x3_6, x3_7, x3_8, x3_9⟩ := keep10 (t := 27) B3.out
  obtain ⟨z0, z1, z2, z3, z4, z5, z6, z7, z8, z9⟩ := keep10 (t := 27) (B3.out.alloc B3.out.size (.cells #[.int .u64 a2, .int .u64 b2, .int .u64 c2, .string p2, .string ByteArray.empty] 27))
  go_wp2_with fail
  go_at_call 19
  refine (svGood2 a b c p m a' b' c' p' m' s1 s2 s1' s2' _ _ _ (by rw [World.size_alloc])).mono ?_
  rintro e w4 ⟨rfl, hb⟩
  have B4 := hid (bt ((B3.out.alloc B3.out.size _).alloc (Nat.le_trans B3.out.size (by simp)) _) hb)
  have N4 := hid (((Blk.new w3 27 (scells a2 b2 c2 p2 ByteArray.empty)).alloc _).below hb)
  clear hb
  obtain ⟨x4_0, x4_1, x4_2, x4_3, x4_4, x4_5, x4_6, x4_7, x4_8, x4_9⟩ := keep10 (t := 27) B4.out
  go_wp2_with fail
  go_ret
  exact ⟨rfl, bt HW.out B4.out⟩

end Go.Proofs.YtmlbjcdildaldaaDoor
