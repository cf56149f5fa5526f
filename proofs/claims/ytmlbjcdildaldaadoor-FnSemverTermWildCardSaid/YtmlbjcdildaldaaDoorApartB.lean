/- The law FnSemverTermApart: the plain law, and the ways joined. -/
import Derived.Test.YtmlbjcdildaldaaDoorApart
set_option linter.unusedVariables false
set_option linter.unusedSimpArgs false
namespace Go.Proofs.YtmlbjcdildaldaaDoor
open Go.RowKit

theorem cmpV_nil (n : Int) : cmpV n [] [] = n := by
  unfold cmpV preCmp
  by_cases h : n = 0 <;> simp [h]
theorem empty_list : (ByteArray.empty).toList = [] := by rw [ByteArray.toList_eq]; rfl
theorem preBar_empty (pre : Bool) : preBar ByteArray.empty pre = false := by
  unfold preBar
  rw [empty_list]
  rfl
theorem wild_one (o : Nat) (ho : o = 0 ∨ o = 6) (a b c x : Int) (rb : 0 ≤ b) (rc : 0 ≤ c) : opV o a b c ByteArray.empty x 0 0 ByteArray.empty 1 true = (x == a) := by
  have e : opV o a b c ByteArray.empty x 0 0 ByteArray.empty 1 true = opTilde false (num3 a b c x 0 0) a b x 0 0 true false := by
    rcases ho with rfl | rfl <;> simp [opV, opR, opEq, preBar_empty, empty_list, cmpV_nil]
  rw [e]
  unfold opTilde
  by_cases h : a = x
  · subst h
    have hn : ¬ num3 a b c a 0 0 < 0 := by
      rcases num3_cases a b c a 0 0 with h1 | h1 | h1 <;> omega
    simp [hn]
  · have h2 : (x == a) = false := by simpa using Ne.symm h
    rw [h2]
    simp [h]
theorem wild_two (o : Nat) (ho : o = 0 ∨ o = 6) (a b c x y : Int) (rc : 0 ≤ c) : opV o a b c ByteArray.empty x y 0 ByteArray.empty 2 true = (x == a && y == b) := by
  have e : opV o a b c ByteArray.empty x y 0 ByteArray.empty 2 true = opTilde false (num3 a b c x y 0) a b x y 0 false true := by
    rcases ho with rfl | rfl <;> simp [opV, opR, opEq, preBar_empty, empty_list, cmpV_nil]
  rw [e]
  unfold opTilde
  by_cases h : a = x
  · subst h
    by_cases h' : b = y
    · subst h'
      have hn : ¬ num3 a b c a b 0 < 0 := by
        rcases num3_cases a b c a b 0 with h1 | h1 | h1 <;> omega
      simp [hn]
    · have h2 : (y == b) = false := by simpa using Ne.symm h'
      rw [h2]
      simp [h']
  · have h2 : (x == a) = false := by simpa using Ne.symm h
    rw [h2]
    simp [h]

theorem fnSemverTermApart_walk (a b c : Int) (p m : ByteArray) (k : Int) (a' b' c' : Int) (p' m' : ByteArray) (w : World) (wa : (Lit.int .u64 a).wf = true) (wb : (Lit.int .u64 b).wf = true) (wc : (Lit.int .u64 c).wf = true) (hp : p.size ≤ maxLen) (hm : m.size ≤ maxLen) (wk : (Lit.int .i64 k).wf = true)
    (wa' : (Lit.int .u64 a').wf = true) (wb' : (Lit.int .u64 b').wf = true) (wc' : (Lit.int .u64 c').wf = true) (hp' : p'.size ≤ maxLen) (hm' : m'.size ≤ maxLen) (hv : Vars w) :
    Calls Tryd.prog 9 #[.agg (scells a b c p m), .int .i64 k, .agg (scells a' b' c' p' m')] w fun e w' => e = .returned (.bool true) ∧ Below w.heap.size w w' := by
  have ra := wf_u64 wa
  have rb := wf_u64 wb
  have rc := wf_u64 wc
  have ra' := wf_u64 wa'
  have rb' := wf_u64 wb'
  have rc' := wf_u64 wc'
  cases f1 : fitB p m
  · exact apart_unfit1 a b c p m k a' b' c' p' m' w hp hm hp' hm' hv f1
  cases f2 : fitB p' m'
  · exact apart_unfit2 a b c p m k a' b' c' p' m' w hp hm hp' hm' hv f1 f2
  by_cases h1 : k < 1
  · exact apart_low a b c p m k a' b' c' p' m' w hp hm hp' hm' hv f1 f2 h1
  by_cases h3 : 3 < k
  · exact apart_high a b c p m k a' b' c' p' m' w hp hm hp' hm' hv f1 f2 (by omega) h3
  have hz : (ByteArray.empty).size ≤ 65536 := by decide
  have op : ∀ (o : Nat), o < 8 → ∀ (j : Nat) (y z : Int), 0 ≤ y → ∀ g h, OpIs (opF o) g h a' b' c' ByteArray.empty ByteArray.empty a y z ByteArray.empty ByteArray.empty (opS o) ByteArray.empty (j == 1) (decide (j < 3)) (j == 2) true (opV o a' b' c' ByteArray.empty a y z ByteArray.empty j true) :=
    fun o ho j y z hy g h => opIs_any o ho j a' b' c' ByteArray.empty ByteArray.empty a y z ByteArray.empty ByteArray.empty (opS o) ByteArray.empty true hz hz (fun _ => by rw [empty_list]; rfl) ra'.1 rb'.1 ra.1 hy g h
  obtain rfl | rfl | rfl : k = 1 ∨ k = 2 ∨ k = 3 := by omega
  · have l0 := wild_one 0 (.inl rfl) a' b' c' a rb'.1 rc'.1
    have l6 := wild_one 6 (.inr rfl) a' b' c' a rb'.1 rc'.1
    have o0 := op 0 (by omega) 1 0 0 (by omega)
    have o6 := op 6 (by omega) 1 0 0 (by omega)
    cases hq : (a == a') <;> rw [hq] at l0 l6
    · exact apart_one_f a b c p m a' b' c' p' m' w hp hm hp' hm' hv f1 f2 hq (fun g h => by have q := o0 g h; rw [l0] at q; exact q) (fun g h => by have q := o6 g h; rw [l6] at q; exact q)
    · exact apart_one_t a b c p m a' b' c' p' m' w hp hm hp' hm' hv f1 f2 hq (fun g h => by have q := o0 g h; rw [l0] at q; exact q) (fun g h => by have q := o6 g h; rw [l6] at q; exact q)
  · have l0 := wild_two 0 (.inl rfl) a' b' c' a b rc'.1
    have l6 := wild_two 6 (.inr rfl) a' b' c' a b rc'.1
    have o0 := op 0 (by omega) 2 b 0 rb.1
    have o6 := op 6 (by omega) 2 b 0 rb.1
    cases hq : (a == a') <;> rw [hq] at l0 l6
    · exact apart_two_a a b c p m a' b' c' p' m' w hp hm hp' hm' hv f1 f2 hq (fun g h => by have q := o0 g h; rw [l0] at q; exact q) (fun g h => by have q := o6 g h; rw [l6] at q; exact q)
    · cases hq2 : (b == b') <;> rw [hq2] at l0 l6
      · exact apart_two_f a b c p m a' b' c' p' m' w hp hm hp' hm' hv f1 f2 hq hq2 (fun g h => by have q := o0 g h; rw [l0] at q; exact q) (fun g h => by have q := o6 g h; rw [l6] at q; exact q)
      · exact apart_two_t a b c p m a' b' c' p' m' w hp hm hp' hm' hv f1 f2 hq hq2 (fun g h => by have q := o0 g h; rw [l0] at q; exact q) (fun g h => by have q := o6 g h; rw [l6] at q; exact q)
  · exact apart_three a b c p m a' b' c' p' m' w hp hm hp' hm' hv f1 f2

end Go.Proofs.YtmlbjcdildaldaaDoor
