/- The semver package's versions: made, their parts read, compared by their numbers. -/
import Derived.Test.YtknjengnipidoaaDoorKit
import Derived.Test.YtknjengnipidoaaDoorShort
import Derived.Deep.RegionHeld3
set_option linter.unusedVariables false
set_option linter.unusedSimpArgs false
namespace Go.Proofs.YtknjengnipidoaaDoor
open Go.RowKit

/-- The cells of a version of the package. -/
abbrev vcells (a b c : Int) (p m : ByteArray) : Array Value := #[.int .u64 a, .int .u64 b, .int .u64 c, .string p, .string m, .string ByteArray.empty]
/-- The cells of a version of the specification. -/
abbrev scells (a b c : Int) (p m : ByteArray) : Array Value := #[.int .u64 a, .int .u64 b, .int .u64 c, .string p, .string m]

theorem major_any (a b c : Int) (p m : ByteArray) (w : World) : Calls Tryd.prog 37 #[.agg (vcells a b c p m)] w fun e w' => e = .returned (.int .u64 a) ∧ w' = w.alloc (.cells (vcells a b c p m) 43) := by
  go_enter Tryd.func37, Tryd.ntmps37
  go_wp2_with fail
  go_ret
  exact ⟨rfl, rfl⟩
theorem minor_any (a b c : Int) (p m : ByteArray) (w : World) : Calls Tryd.prog 38 #[.agg (vcells a b c p m)] w fun e w' => e = .returned (.int .u64 b) ∧ w' = w.alloc (.cells (vcells a b c p m) 43) := by
  go_enter Tryd.func38, Tryd.ntmps38
  go_wp2_with fail
  go_ret
  exact ⟨rfl, rfl⟩
theorem patch_any (a b c : Int) (p m : ByteArray) (w : World) : Calls Tryd.prog 39 #[.agg (vcells a b c p m)] w fun e w' => e = .returned (.int .u64 c) ∧ w' = w.alloc (.cells (vcells a b c p m) 43) := by
  go_enter Tryd.func39, Tryd.ntmps39
  go_wp2_with fail
  go_ret
  exact ⟨rfl, rfl⟩
theorem prerelease_any (a b c : Int) (p m : ByteArray) (w : World) : Calls Tryd.prog 40 #[.agg (vcells a b c p m)] w fun e w' => e = .returned (.string p) ∧ w' = w.alloc (.cells (vcells a b c p m) 43) := by
  go_enter Tryd.func40, Tryd.ntmps40
  go_wp2_with fail
  go_ret
  exact ⟨rfl, rfl⟩

theorem zzVersion_any (a b c : Int) (p m : ByteArray) (w : World) : Calls Tryd.prog 32 #[.int .u64 a, .int .u64 b, .int .u64 c, .string p, .string m] w fun e w' =>
    e = .returned (.pointer (some ⟨w.heap.size, 0, none⟩)) ∧ w' = w.alloc (.cells (vcells a b c p m) 43) := by
  go_enter Tryd.func32, Tryd.ntmps32
  go_wp2_with fail
  go_ret
  exact ⟨rfl, rfl⟩

theorem version_any (a b c : Int) (p m : ByteArray) (w : World) : Calls Tryd.prog 22 #[.agg (scells a b c p m)] w fun e w' =>
    e = .returned (.pointer (some ⟨w.heap.size + 1, 0, none⟩)) ∧ w' = (w.alloc (.cells (scells a b c p m) 27)).alloc (.cells (vcells a b c p m) 43) := by
  go_enter Tryd.func22, Tryd.ntmps22
  go_wp2_with (go_at_call 32; refine (zzVersion_any a b c p m _).mono ?_; rintro e w' ⟨rfl, rfl⟩)
  go_ret
  exact ⟨by simp, rfl⟩

theorem fits14_any (a b c : Int) (p m : ByteArray) (w : World) (hp : p.size ≤ maxLen) (hm : m.size ≤ maxLen) : Calls Tryd.prog 11 #[.agg (scells a b c p m)] w fun e w' =>
    e = .returned (.bool (decide (p.size ≤ 2147483647) && decide (m.size ≤ 2147483647))) ∧ Below w.heap.size w w' := by
  unfold maxLen at hp hm
  go_enter Tryd.func11, Tryd.ntmps11
  by_cases h1 : p.size ≤ 2147483647
  · by_cases h2 : m.size ≤ 2147483647
    · go_wp2_with fail
      go_ret
      exact ⟨ret_b (by simp [h1, h2]), by go_grown⟩
    · go_wp2_with fail
      go_ret
      exact ⟨ret_b (by simp [h1, h2]), by go_grown⟩
  · go_wp2_with fail
    go_ret
    exact ⟨ret_b (by simp [h1]), by go_grown⟩
end Go.Proofs.YtknjengnipidoaaDoor
