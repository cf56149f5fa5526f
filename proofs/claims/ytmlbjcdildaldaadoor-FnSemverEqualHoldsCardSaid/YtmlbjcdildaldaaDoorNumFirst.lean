/- The law FnSemverNumbersFirst, walked. -/
import Derived.Test.YtmlbjcdildaldaaDoorVerD
import Derived.Test.YtmlbjcdildaldaaDoorSvGood
set_option linter.unusedVariables false
set_option linter.unusedSimpArgs false
namespace Go.Proofs.YtmlbjcdildaldaaDoor
open Go.RowKit

def fitB (p m : ByteArray) : Bool := decide (p.size ≤ 2147483647) && decide (m.size ≤ 2147483647)
theorem fitB_any (a b c : Int) (p m : ByteArray) (w : World) (hp : p.size ≤ maxLen) (hm : m.size ≤ maxLen) : Calls Tryd.prog 17 #[.agg (scells a b c p m)] w fun e w' => e = .returned (.bool (fitB p m)) ∧ Below w.heap.size w w' := fits14_any a b c p m w hp hm
theorem fitB_size {p m : ByteArray} (h : fitB p m = true) : p.size ≤ 2147483647 ∧ m.size ≤ 2147483647 := by simpa [fitB] using h
def ok2 (p m p' m' : ByteArray) : Bool := [(⟨0, 0, 0, p, m⟩ : Ver), ⟨0, 0, 0, p', m'⟩].all verOk
theorem svGood2 (a b c : Int) (p m : ByteArray) (a' b' c' : Int) (p' m' : ByteArray) (s1 : p.size ≤ 2147483647) (s2 : m.size ≤ 2147483647) (s1' : p'.size ≤ 2147483647) (s2' : m'.size ≤ 2147483647) (n k : Nat) (W : World) (hn : n = W.heap.size) :
    Calls Tryd.prog 19 #[.slice (some ⟨n, 0, none⟩) 2 k] (W.alloc (.cells #[.int .u64 a, .int .u64 b, .int .u64 c, .string p, .string m, .int .u64 a', .int .u64 b', .int .u64 c', .string p', .string m'] 27)) fun e w' =>
      e = .returned (.bool (ok2 p m p' m')) ∧ Below (W.alloc (.cells #[.int .u64 a, .int .u64 b, .int .u64 c, .string p, .string m, .int .u64 a', .int .u64 b', .int .u64 c', .string p', .string m'] 27)).heap.size (W.alloc (.cells #[.int .u64 a, .int .u64 b, .int .u64 c, .string p, .string m, .int .u64 a', .int .u64 b', .int .u64 c', .string p', .string m'] 27)) w' := by
  subst hn
  have := svGood_any [⟨a, b, c, p, m⟩, ⟨a', b', c', p', m'⟩] W.heap.size k _ (by simp) (vers_two W 27 ⟨a, b, c, p, m⟩ ⟨a', b', c', p', m'⟩) (by simp; omega)
  exact this

theorem first3 (a b c a' b' c' : Int) : firstC (three a b c) (three a' b' c') 3 = if segC a a' = 0 then (if segC b b' = 0 then segC c c' else segC b b') else segC a a' := by
  simp only [firstC, three]
  by_cases h : segC a a' = 0
  · by_cases h2 : segC b b' = 0
    · simp [h, h2]
    · simp [h, h2]
  · simp [h]

theorem compare_nums (g h : Nat) (a b c : Int) (p m : ByteArray) (a' b' c' : Int) (p' m' : ByteArray) (w : World) (hx : V6 w g a b c p m) (hy : V6 w h a' b' c' p' m') (hn : firstC (three a b c) (three a' b' c') 3 ≠ 0) :
    Calls Tryd.prog 60 #[.pointer (some ⟨g, 0, none⟩), .pointer (some ⟨h, 0, none⟩)] w fun e w' => e = .returned (.int .i64 (firstC (three a b c) (three a' b' c') 3)) ∧ Below w.heap.size w w' := by
  rw [first3] at hn ⊢
  by_cases h1 : segC a a' = 0
  · by_cases h2 : segC b b' = 0
    · simp only [h1, h2, if_pos] at hn ⊢
      exact compare_patch g h a b c p m a' b' c' p' m' w hx hy h1 h2 hn
    · simp only [h1, if_pos] at hn ⊢
      rw [if_neg h2] at hn ⊢
      exact compare_minor g h a b c p m a' b' c' p' m' w hx hy h1 hn
  · rw [if_neg h1] at hn ⊢
    exact compare_major g h a b c p m a' b' c' p' m' w hx hy hn

set_option maxRecDepth 100000 in
theorem first_unfit1 (a b c : Int) (p m : ByteArray) (a' b' c' : Int) (p' m' : ByteArray) (w : World) (hp : p.size ≤ maxLen) (hm : m.size ≤ maxLen) (hp' : p'.size ≤ maxLen) (hm' : m'.size ≤ maxLen) (hv : Vars w) (f1 : fitB p m = false) :
    Calls Tryd.prog 4 #[.agg (scells a b c p m), .agg (scells a' b' c' p' m')] w fun e w' => e = .returned (.bool true) ∧ Below w.heap.size w w' := by
  have B0 := hid (Below.refl ((w.alloc (.cells (scells a b c p m) 27)).alloc (.cells (scells a' b' c' p' m') 27)).heap.size ((w.alloc (.cells (scells a b c p m) 27)).alloc (.cells (scells a' b' c' p' m') 27)))
  have BW : Below w.heap.size w ((w.alloc (.cells (scells a b c p m) 27)).alloc (.cells (scells a' b' c' p' m') 27)) := by go_grown
  have HW := hid BW
  clear BW
  go_enter Tryd.func4, Tryd.ntmps4
  go_wp2_with fail
  go_at_call 17
  refine (fitB_any a b c p m _ hp hm).mono ?_
  rintro e w1 ⟨rfl, hb⟩
  have B1 := hid (bt B0.out hb)
  clear hb
  obtain ⟨x1_0, x1_1, x1_2, x1_3, x1_4, x1_5, x1_6, x1_7, x1_8, x1_9⟩ := keep10 (t := 27) B1.out
  go_wp2_with fail
  go_ret
  exact ⟨rfl, bt HW.out B1.out⟩

set_option maxRecDepth 100000 in
theorem first_unfit2 (a b c : Int) (p m : ByteArray) (a' b' c' : Int) (p' m' : ByteArray) (w : World) (hp : p.size ≤ maxLen) (hm : m.size ≤ maxLen) (hp' : p'.size ≤ maxLen) (hm' : m'.size ≤ maxLen) (hv : Vars w) (f1 : fitB p m = true) (f2 : fitB p' m' = false) :
    Calls Tryd.prog 4 #[.agg (scells a b c p m), .agg (scells a' b' c' p' m')] w fun e w' => e = .returned (.bool true) ∧ Below w.heap.size w w' := by
  have B0 := hid (Below.refl ((w.alloc (.cells (scells a b c p m) 27)).alloc (.cells (scells a' b' c' p' m') 27)).heap.size ((w.alloc (.cells (scells a b c p m) 27)).alloc (.cells (scells a' b' c' p' m') 27)))
  have BW : Below w.heap.size w ((w.alloc (.cells (scells a b c p m) 27)).alloc (.cells (scells a' b' c' p' m') 27)) := by go_grown
  have HW := hid BW
  clear BW
  go_enter Tryd.func4, Tryd.ntmps4
  go_wp2_with fail
  go_at_call 17
  refine (fitB_any a b c p m _ hp hm).mono ?_
  rintro e w1 ⟨rfl, hb⟩
  have B1 := hid (bt B0.out hb)
  clear hb
  obtain ⟨x1_0, x1_1, x1_2, x1_3, x1_4, x1_5, x1_6, x1_7, x1_8, x1_9⟩ := keep10 (t := 27) B1.out
  go_wp2_with fail
  go_at_call 17
  refine (fitB_any a' b' c' p' m' _ hp' hm').mono ?_
  rintro e w2 ⟨rfl, hb⟩
  have B2 := hid (bt B1.out hb)
  clear hb
  obtain ⟨x2_0, x2_1, x2_2, x2_3, x2_4, x2_5, x2_6, x2_7, x2_8, x2_9⟩ := keep10 (t := 27) B2.out
  go_wp2_with fail
  go_ret
  exact ⟨rfl, bt HW.out B2.out⟩

set_option maxRecDepth 100000 in
theorem first_bad (a b c : Int) (p m : ByteArray) (a' b' c' : Int) (p' m' : ByteArray) (w : World) (hp : p.size ≤ maxLen) (hm : m.size ≤ maxLen) (hp' : p'.size ≤ maxLen) (hm' : m'.size ≤ maxLen) (hv : Vars w) (f1 : fitB p m = true) (f2 : fitB p' m' = true) (f3 : ok2 p m p' m' = false) :
    Calls Tryd.prog 4 #[.agg (scells a b c p m), .agg (scells a' b' c' p' m')] w fun e w' => e = .returned (.bool true) ∧ Below w.heap.size w w' := by
  obtain ⟨s1, s2⟩ := fitB_size f1
  obtain ⟨s1', s2'⟩ := fitB_size f2
  have B0 := hid (Below.refl ((w.alloc (.cells (scells a b c p m) 27)).alloc (.cells (scells a' b' c' p' m') 27)).heap.size ((w.alloc (.cells (scells a b c p m) 27)).alloc (.cells (scells a' b' c' p' m') 27)))
  have BW : Below w.heap.size w ((w.alloc (.cells (scells a b c p m) 27)).alloc (.cells (scells a' b' c' p' m') 27)) := by go_grown
  have HW := hid BW
  clear BW
  go_enter Tryd.func4, Tryd.ntmps4
  go_wp2_with fail
  go_at_call 17
  refine (fitB_any a b c p m _ hp hm).mono ?_
  rintro e w1 ⟨rfl, hb⟩
  have B1 := hid (bt B0.out hb)
  clear hb
  obtain ⟨x1_0, x1_1, x1_2, x1_3, x1_4, x1_5, x1_6, x1_7, x1_8, x1_9⟩ := keep10 (t := 27) B1.out
  go_wp2_with fail
  go_at_call 17
  refine (fitB_any a' b' c' p' m' _ hp' hm').mono ?_
  rintro e w2 ⟨rfl, hb⟩
  have B2 := hid (bt B1.out hb)
  clear hb
  obtain ⟨x2_0, x2_1, x2_2, x2_3, x2_4, x2_5, x2_6, x2_7, x2_8, x2_9⟩ := keep10 (t := 27) B2.out
  go_wp2_with fail
  go_at_call 18
  refine (numbers_any a b c p m a' b' c' p' m' 3 (by omega) _).mono ?_
  rintro e w3 ⟨rfl, hb⟩
  have B3 := hid (bt B2.out hb)
  clear hb
  obtain ⟨x3_0, x3_1, x3_2, x3_3, x3_4, x3_5, x3_6, x3_7, x3_8, x3_9⟩ := keep10 (t := 27) B3.out
  go_wp2_with fail
  go_at_call 19
  refine (svGood2 a b c p m a' b' c' p' m' s1 s2 s1' s2' _ _ _ rfl).mono ?_
  rintro e w4 ⟨rfl, hb⟩
  have B4 := hid (bt (B3.out.alloc B3.out.size _) hb)
  clear hb
  obtain ⟨x4_0, x4_1, x4_2, x4_3, x4_4, x4_5, x4_6, x4_7, x4_8, x4_9⟩ := keep10 (t := 27) B4.out
  go_wp2_with fail
  go_ret
  exact ⟨rfl, bt HW.out B4.out⟩

set_option maxRecDepth 100000 in
theorem first_same (a b c : Int) (p m : ByteArray) (a' b' c' : Int) (p' m' : ByteArray) (w : World) (hp : p.size ≤ maxLen) (hm : m.size ≤ maxLen) (hp' : p'.size ≤ maxLen) (hm' : m'.size ≤ maxLen) (hv : Vars w) (f1 : fitB p m = true) (f2 : fitB p' m' = true) (f3 : ok2 p m p' m' = true) (hn : firstC (three a b c) (three a' b' c') 3 = 0) :
    Calls Tryd.prog 4 #[.agg (scells a b c p m), .agg (scells a' b' c' p' m')] w fun e w' => e = .returned (.bool true) ∧ Below w.heap.size w w' := by
  obtain ⟨s1, s2⟩ := fitB_size f1
  obtain ⟨s1', s2'⟩ := fitB_size f2
  have B0 := hid (Below.refl ((w.alloc (.cells (scells a b c p m) 27)).alloc (.cells (scells a' b' c' p' m') 27)).heap.size ((w.alloc (.cells (scells a b c p m) 27)).alloc (.cells (scells a' b' c' p' m') 27)))
  have BW : Below w.heap.size w ((w.alloc (.cells (scells a b c p m) 27)).alloc (.cells (scells a' b' c' p' m') 27)) := by go_grown
  have HW := hid BW
  clear BW
  go_enter Tryd.func4, Tryd.ntmps4
  go_wp2_with fail
  go_at_call 17
  refine (fitB_any a b c p m _ hp hm).mono ?_
  rintro e w1 ⟨rfl, hb⟩
  have B1 := hid (bt B0.out hb)
  clear hb
  obtain ⟨x1_0, x1_1, x1_2, x1_3, x1_4, x1_5, x1_6, x1_7, x1_8, x1_9⟩ := keep10 (t := 27) B1.out
  go_wp2_with fail
  go_at_call 17
  refine (fitB_any a' b' c' p' m' _ hp' hm').mono ?_
  rintro e w2 ⟨rfl, hb⟩
  have B2 := hid (bt B1.out hb)
  clear hb
  obtain ⟨x2_0, x2_1, x2_2, x2_3, x2_4, x2_5, x2_6, x2_7, x2_8, x2_9⟩ := keep10 (t := 27) B2.out
  go_wp2_with fail
  go_at_call 18
  refine (numbers_any a b c p m a' b' c' p' m' 3 (by omega) _).mono ?_
  rintro e w3 ⟨rfl, hb⟩
  have B3 := hid (bt B2.out hb)
  clear hb
  obtain ⟨x3_0, x3_1, x3_2, x3_3, x3_4, x3_5, x3_6, x3_7, x3_8, x3_9⟩ := keep10 (t := 27) B3.out
  go_wp2_with fail
  go_at_call 19
  refine (svGood2 a b c p m a' b' c' p' m' s1 s2 s1' s2' _ _ _ rfl).mono ?_
  rintro e w4 ⟨rfl, hb⟩
  have B4 := hid (bt (B3.out.alloc B3.out.size _) hb)
  clear hb
  obtain ⟨x4_0, x4_1, x4_2, x4_3, x4_4, x4_5, x4_6, x4_7, x4_8, x4_9⟩ := keep10 (t := 27) B4.out
  go_wp2_with fail
  go_ret
  exact ⟨rfl, bt HW.out B4.out⟩

set_option maxRecDepth 100000 in
theorem first_cmp (a b c : Int) (p m : ByteArray) (a' b' c' : Int) (p' m' : ByteArray) (w : World) (hp : p.size ≤ maxLen) (hm : m.size ≤ maxLen) (hp' : p'.size ≤ maxLen) (hm' : m'.size ≤ maxLen) (hv : Vars w) (f1 : fitB p m = true) (f2 : fitB p' m' = true) (f3 : ok2 p m p' m' = true) (hn0 : firstC (three a b c) (three a' b' c') 3 ≠ 0) :
    Calls Tryd.prog 4 #[.agg (scells a b c p m), .agg (scells a' b' c' p' m')] w fun e w' => e = .returned (.bool true) ∧ Below w.heap.size w w' := by
  obtain ⟨s1, s2⟩ := fitB_size f1
  obtain ⟨s1', s2'⟩ := fitB_size f2
  have hnf : (firstC (three a b c) (three a' b' c') 3 == 0) = false := by simpa using hn0
  have B0 := hid (Below.refl ((w.alloc (.cells (scells a b c p m) 27)).alloc (.cells (scells a' b' c' p' m') 27)).heap.size ((w.alloc (.cells (scells a b c p m) 27)).alloc (.cells (scells a' b' c' p' m') 27)))
  have BW : Below w.heap.size w ((w.alloc (.cells (scells a b c p m) 27)).alloc (.cells (scells a' b' c' p' m') 27)) := by go_grown
  have HW := hid BW
  clear BW
  go_enter Tryd.func4, Tryd.ntmps4
  go_wp2_with fail
  go_at_call 17
  refine (fitB_any a b c p m _ hp hm).mono ?_
  rintro e w1 ⟨rfl, hb⟩
  have B1 := hid (bt B0.out hb)
  clear hb
  obtain ⟨x1_0, x1_1, x1_2, x1_3, x1_4, x1_5, x1_6, x1_7, x1_8, x1_9⟩ := keep10 (t := 27) B1.out
  go_wp2_with fail
  go_at_call 17
  refine (fitB_any a' b' c' p' m' _ hp' hm').mono ?_
  rintro e w2 ⟨rfl, hb⟩
  have B2 := hid (bt B1.out hb)
  clear hb
  obtain ⟨x2_0, x2_1, x2_2, x2_3, x2_4, x2_5, x2_6, x2_7, x2_8, x2_9⟩ := keep10 (t := 27) B2.out
  go_wp2_with fail
  go_at_call 18
  refine (numbers_any a b c p m a' b' c' p' m' 3 (by omega) _).mono ?_
  rintro e w3 ⟨rfl, hb⟩
  have B3 := hid (bt B2.out hb)
  clear hb
  obtain ⟨x3_0, x3_1, x3_2, x3_3, x3_4, x3_5, x3_6, x3_7, x3_8, x3_9⟩ := keep10 (t := 27) B3.out
  go_wp2_with fail
  go_at_call 19
  refine (svGood2 a b c p m a' b' c' p' m' s1 s2 s1' s2' _ _ _ rfl).mono ?_
  rintro e w4 ⟨rfl, hb⟩
  have B4 := hid (bt (B3.out.alloc B3.out.size _) hb)
  clear hb
  obtain ⟨x4_0, x4_1, x4_2, x4_3, x4_4, x4_5, x4_6, x4_7, x4_8, x4_9⟩ := keep10 (t := 27) B4.out
  go_wp2_with fail
  go_at_call 20
  refine (vCompare_any _ a b c p m a' b' c' p' m' _ (hv.below (bt HW.out B4.out)) (fun g h W h1 h2 _ => compare_nums g h a b c p m a' b' c' p' m' W h1 h2 hn0)).mono ?_
  rintro e w5 ⟨rfl, hb⟩
  have B5 := hid (bt B4.out hb)
  clear hb
  go_wp2_with fail
  go_ret
  exact ⟨ret_b (by simp), bt HW.out B5.out⟩

theorem fnSemverNumbersFirst_walk (a b c : Int) (p m : ByteArray) (a' b' c' : Int) (p' m' : ByteArray) (w : World) (wa : (Lit.int .u64 a).wf = true) (wb : (Lit.int .u64 b).wf = true) (wc : (Lit.int .u64 c).wf = true) (hp : p.size ≤ maxLen) (hm : m.size ≤ maxLen)
    (wa' : (Lit.int .u64 a').wf = true) (wb' : (Lit.int .u64 b').wf = true) (wc' : (Lit.int .u64 c').wf = true) (hp' : p'.size ≤ maxLen) (hm' : m'.size ≤ maxLen) (hv : Vars w) :
    Calls Tryd.prog 4 #[.agg (scells a b c p m), .agg (scells a' b' c' p' m')] w fun e w' => e = .returned (.bool true) ∧ Below w.heap.size w w' := by
  cases f1 : fitB p m
  · exact first_unfit1 a b c p m a' b' c' p' m' w hp hm hp' hm' hv f1
  · cases f2 : fitB p' m'
    · exact first_unfit2 a b c p m a' b' c' p' m' w hp hm hp' hm' hv f1 f2
    · cases f3 : ok2 p m p' m'
      · exact first_bad a b c p m a' b' c' p' m' w hp hm hp' hm' hv f1 f2 f3
      · by_cases hn : firstC (three a b c) (three a' b' c') 3 = 0
        · exact first_same a b c p m a' b' c' p' m' w hp hm hp' hm' hv f1 f2 f3 hn
        · exact first_cmp a b c p m a' b' c' p' m' w hp hm hp' hm' hv f1 f2 f3 hn
end Go.Proofs.YtmlbjcdildaldaaDoor
