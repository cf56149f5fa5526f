/- The law FnSemverTermWild: the plain law, and the ways joined. -/
import Derived.Test.YtmlbjcdildaldaaDoorWild
set_option linter.unusedVariables false
set_option linter.unusedSimpArgs false
namespace Go.Proofs.YtmlbjcdildaldaaDoor
open Go.RowKit

theorem verOk_size {p m : ByteArray} (h : verOk ⟨0, 0, 0, p, m⟩ = true) : p.size ≤ 65536 ∧ m.size ≤ 65536 := by
  simp only [verOk, Bool.and_eq_true] at h
  exact ⟨by simpa [short] using h.1, by simpa [short] using h.2.1⟩
theorem eq_is_tilde (a b c : Int) (p : ByteArray) (x y z : Int) (q : ByteArray) (k : Nat) (hk : k < 3) (pre : Bool) : opV 0 a b c p x y z q k pre = opV 6 a b c p x y z q k pre := by
  unfold opV opR opEq
  cases h : preBar p pre
  · simp [hk]
  · simp [opTilde]
theorem eq_own_0 (x : Int) (hx : 0 ≤ x) (pre : Bool) : opV 0 x 0 0 ByteArray.empty 0 0 0 ByteArray.empty 0 pre = true := by
  have hn : ¬ num3 x 0 0 0 0 0 < 0 := by rcases num3_cases x 0 0 0 0 0 with h1 | h1 | h1 <;> omega
  simp [opV, opR, opEq, opTilde, preBar_empty, empty_list, cmpV_nil, hn]
theorem eq_own (x y : Int) (k : Nat) (hk : k = 1 ∨ k = 2) (pre : Bool) : opV 0 x y 0 ByteArray.empty x y 0 ByteArray.empty k pre = true := by
  have hn : ¬ num3 x y 0 x y 0 < 0 := by rw [num3_self]; omega
  rcases hk with rfl | rfl <;> simp [opV, opR, opEq, opTilde, preBar_empty, empty_list, cmpV_nil, hn]

theorem fnSemverTermWild_walk (a b c : Int) (p m : ByteArray) (k : Int) (a' b' c' : Int) (p' m' : ByteArray) (pre : Bool) (w : World) (wa : (Lit.int .u64 a).wf = true) (wb : (Lit.int .u64 b).wf = true) (wc : (Lit.int .u64 c).wf = true) (hp : p.size ≤ maxLen) (hm : m.size ≤ maxLen) (wk : (Lit.int .i64 k).wf = true)
    (wa' : (Lit.int .u64 a').wf = true) (wb' : (Lit.int .u64 b').wf = true) (wc' : (Lit.int .u64 c').wf = true) (hp' : p'.size ≤ maxLen) (hm' : m'.size ≤ maxLen) (hv : Vars w) :
    Calls Tryd.prog 11 #[.agg (scells a b c p m), .int .i64 k, .agg (scells a' b' c' p' m'), .bool pre] w fun e w' => e = .returned (.bool true) ∧ Below w.heap.size w w' := by
  have ra := wf_u64 wa
  have rb := wf_u64 wb
  have rc := wf_u64 wc
  have ra' := wf_u64 wa'
  have rb' := wf_u64 wb'
  have rc' := wf_u64 wc'
  cases f1 : fitB p m
  · exact wild_unfit1 a b c p m k a' b' c' p' m' pre w hp hm hp' hm' hv f1
  cases f2 : fitB p' m'
  · exact wild_unfit2 a b c p m k a' b' c' p' m' pre w hp hm hp' hm' hv f1 f2
  by_cases h1 : k < 0
  · exact wild_low a b c p m k a' b' c' p' m' pre w hp hm hp' hm' hv f1 f2 h1
  by_cases h3 : 2 < k
  · exact wild_high a b c p m k a' b' c' p' m' pre w hp hm hp' hm' hv f1 f2 (by omega) h3
  have s1 := fitB_size f2
  cases f3 : verOk ⟨0, 0, 0, p', m'⟩
  · exact wild_bad a b c p m k a' b' c' p' m' pre w hp hm hp' hm' hv f1 f2 s1 (by omega) (by omega) f3
  have hz : (ByteArray.empty).size ≤ 65536 := by decide
  have sp := (verOk_size f3).1
  have op : ∀ (o : Nat), o < 8 → ∀ (j : Nat) (x y z : Int), 0 ≤ x → 0 ≤ y → ∀ g h, OpIs (opF o) g h a' b' c' p' m' x y z ByteArray.empty ByteArray.empty (opS o) ByteArray.empty (j == 1) (decide (j < 3)) (j == 2) pre (opV o a' b' c' p' x y z ByteArray.empty j pre) :=
    fun o ho j x y z hx hy g h => opIs_any o ho j a' b' c' p' m' x y z ByteArray.empty ByteArray.empty (opS o) ByteArray.empty pre sp hz (fun _ => by rw [empty_list]; rfl) ra'.1 rb'.1 hx hy g h
  have own : ∀ (j : Nat) (u v x y : Int), 0 ≤ u → 0 ≤ v → 0 ≤ x → 0 ≤ y → opV 0 u v 0 ByteArray.empty x y 0 ByteArray.empty j pre = true → ∀ g h, OpIs (opF 0) g h u v 0 ByteArray.empty ByteArray.empty x y 0 ByteArray.empty ByteArray.empty (opS 0) ByteArray.empty (j == 1) (decide (j < 3)) (j == 2) pre true :=
    fun j u v x y hu hv2 hx hy e g h => e ▸ opIs_any 0 (by omega) j u v 0 ByteArray.empty ByteArray.empty x y 0 ByteArray.empty ByteArray.empty (opS 0) ByteArray.empty pre hz hz (fun _ => by rw [empty_list]; rfl) hu hv2 hx hy g h
  obtain rfl | rfl | rfl : k = 0 ∨ k = 1 ∨ k = 2 := by omega
  · exact wild_0 a b c p m a' b' c' p' m' pre w hp hm hp' hm' hv f1 f2 s1 f3 _ (op 6 (by omega) 0 0 0 0 (by omega) (by omega)) (fun g h => eq_is_tilde a' b' c' p' 0 0 0 ByteArray.empty 0 (by omega) pre ▸ op 0 (by omega) 0 0 0 0 (by omega) (by omega) g h) (own 0 a 0 0 0 ra.1 (by omega) (by omega) (by omega) (eq_own_0 a ra.1 pre))
  · exact wild_1 a b c p m a' b' c' p' m' pre w hp hm hp' hm' hv f1 f2 s1 f3 _ (op 6 (by omega) 1 a 0 0 ra.1 (by omega)) (fun g h => eq_is_tilde a' b' c' p' a 0 0 ByteArray.empty 1 (by omega) pre ▸ op 0 (by omega) 1 a 0 0 ra.1 (by omega) g h) (own 1 a 0 a 0 ra.1 (by omega) ra.1 (by omega) (eq_own a 0 1 (.inl rfl) pre))
  · exact wild_2 a b c p m a' b' c' p' m' pre w hp hm hp' hm' hv f1 f2 s1 f3 _ (op 6 (by omega) 2 a b 0 ra.1 rb.1) (fun g h => eq_is_tilde a' b' c' p' a b 0 ByteArray.empty 2 (by omega) pre ▸ op 0 (by omega) 2 a b 0 ra.1 rb.1 g h) (own 2 a b a b ra.1 rb.1 ra.1 rb.1 (eq_own a b 2 (.inr rfl) pre))

end Go.Proofs.YtmlbjcdildaldaaDoor
