/- The law FnSemverNumbersFirst, walked. -/
import Derived.Test.YtkohcmgckkenpaaDoorVerD
import Derived.Test.YtkohcmgckkenpaaDoorSvGood
set_option linter.unusedVariables false
set_option linter.unusedSimpArgs false
namespace Go.Proofs.YtkohcmgckkenpaaDoor
open Go.RowKit

def fitB (p m : ByteArray) : Bool := decide (p.size ≤ 2147483647) && decide (m.size ≤ 2147483647)
theorem fitB_any (a b c : Int) (p m : ByteArray) (w : World) (hp : p.size ≤ maxLen) (hm : m.size ≤ maxLen) : Calls Tryd.prog 6 #[.agg (scells a b c p m)] w fun e w' => e = .returned (.bool (fitB p m)) ∧ Below w.heap.size w w' := fits14_any a b c p m w hp hm
theorem fitB_size {p m : ByteArray} (h : fitB p m = true) : p.size ≤ 2147483647 ∧ m.size ≤ 2147483647 := by simpa [fitB] using h
def ok2 (p m p' m' : ByteArray) : Bool := [(⟨0, 0, 0, p, m⟩ : Ver), ⟨0, 0, 0, p', m'⟩].all verOk
theorem svGood2 (a b c : Int) (p m : ByteArray) (a' b' c' : Int) (p' m' : ByteArray) (s1 : p.size ≤ 2147483647) (s2 : m.size ≤ 2147483647) (s1' : p'.size ≤ 2147483647) (s2' : m'.size ≤ 2147483647) (n k : Nat) (W : World) (hn : n = W.heap.size) :
    Calls Tryd.prog 8 #[.slice (some ⟨n, 0, none⟩) 2 k] (W.alloc (.cells #[.int .u64 a, .int .u64 b, .int .u64 c, .string p, .string m, .int .u64 a', .int .u64 b', .int .u64 c', .string p', .string m'] 25)) fun e w' =>
      e = .returned (.bool (ok2 p m p' m')) ∧ Below (W.alloc (.cells #[.int .u64 a, .int .u64 b, .int .u64 c, .string p, .string m, .int .u64 a', .int .u64 b', .int .u64 c', .string p', .string m'] 25)).heap.size (W.alloc (.cells #[.int .u64 a, .int .u64 b, .int .u64 c, .string p, .string m, .int .u64 a', .int .u64 b', .int .u64 c', .string p', .string m'] 25)) w' := by
  subst hn
  have := svGood_any [⟨a, b, c, p, m⟩, ⟨a', b', c', p', m'⟩] W.heap.size k _ (by simp) (vers_two W 25 ⟨a, b, c, p, m⟩ ⟨a', b', c', p', m'⟩) (by simp; omega)
  exact this

theorem first3 (a b c a' b' c' : Int) : firstC (three a b c) (three a' b' c') 3 = if segC a a' = 0 then (if segC b b' = 0 then segC c c' else segC b b') else segC a a' := by
  simp only [firstC, three]
  by_cases h : segC a a' = 0
  · by_cases h2 : segC b b' = 0
    · simp [h, h2]
    · simp [h, h2]
  · simp [h]

theorem compare_nums (g h : Nat) (a b c : Int) (p m : ByteArray) (a' b' c' : Int) (p' m' : ByteArray) (w : World) (hx : V6 w g a b c p m) (hy : V6 w h a' b' c' p' m') (hn : firstC (three a b c) (three a' b' c') 3 ≠ 0) :
    Calls Tryd.prog 60 #[.pointer (some ⟨g, 0, none⟩), .pointer (some ⟨h, 0, none⟩)] w fun e w' => e = .returned (.int .i64 (firstC (three a b c) (three a' b' c') 3)) ∧ Below w.heap.size w w' := by
  rw [first3] at hn ⊢
  by_cases h1 : segC a a' = 0
  · by_cases h2 : segC b b' = 0
    · simp only [h1, h2, if_pos] at hn ⊢
      exact compare_patch g h a b c p m a' b' c' p' m' w hx hy h1 h2 hn
    · simp only [h1, if_pos] at hn ⊢
      rw [if_neg h2] at hn ⊢
      exact compare_minor g h a b c p m a' b' c' p' m' w hx hy h1 hn
  · rw [if_neg h1] at hn ⊢
    exact compare_major g h a b c p m a' b' c' p' m' w hx hy hn

end Go.Proofs.YtkohcmgckkenpaaDoor
