/- FnMatchRange: the walk of the row. -/
import Derived.Test.YtjddckigiinjgaaDoorMatJ
set_option linter.unusedVariables false
set_option linter.unusedSimpArgs false
namespace Go.Proofs.YtjddckigiinjgaaDoor
open Go.RowKit

theorem wf_u8 {a : Int} (h : (Lit.int .u8 a).wf = true) : 0 ≤ a ∧ a ≤ 255 := by
  simp only [Lit.wf, IntKind.min, IntKind.max, IntKind.signed, IntKind.bits, Bool.and_eq_true, decide_eq_true_eq] at h
  simp at h
  omega
theorem fnMatchRange_walk (a0 a1 : Int) (s : ByteArray) (w : World) (w0 : (Lit.int .u8 a0).wf = true) (w1 : (Lit.int .u8 a1).wf = true) (_ : s.size ≤ maxLen) :
    Calls Tryd.prog 3 #[.int .u8 a0, .int .u8 a1, .string s] w fun e w' => e = .returned (.bool true) ∧ Below w.heap.size w w' := by
  have b0 := wf_u8 w0
  have b1 := wf_u8 w1
  clear w0 w1
  by_cases hs : s.size ≤ 2147483647
  · by_cases h0 : 128 ≤ a0
    · go_enter Tryd.func3, Tryd.ntmps3
      go_wp2_with fail
      go_ret
      exact ⟨rfl, Below.refl _ _⟩
    · by_cases h1 : 128 ≤ a1
      · go_enter Tryd.func3, Tryd.ntmps3
        go_wp2_with fail
        go_ret
        exact ⟨rfl, Below.refl _ _⟩
      · obtain ⟨lo, rfl⟩ := Int.eq_ofNat_of_zero_le b0.1
        obtain ⟨hi, rfl⟩ := Int.eq_ofNat_of_zero_le b1.1
        exact range_core lo hi s w hs (by omega) (by omega)
  · have h2 : (2147483647 : Int) < s.size := by omega
    go_enter Tryd.func3, Tryd.ntmps3
    go_wp2_with fail
    go_ret
    exact ⟨rfl, Below.refl _ _⟩
end Go.Proofs.YtjddckigiinjgaaDoor
