/- The semver package's versions: made, their parts read, compared by their numbers. -/
import Derived.Test.YtkohcmgckkenpaaDoorKit
import Derived.Test.YtkohcmgckkenpaaDoorSemE
import Derived.Deep.RegionHeld3
set_option linter.unusedVariables false
set_option linter.unusedSimpArgs false
namespace Go.Proofs.YtkohcmgckkenpaaDoor
open Go.RowKit

/-- The cells of a version of the package. -/
abbrev vcells (a b c : Int) (p m : ByteArray) : Array Value := #[.int .u64 a, .int .u64 b, .int .u64 c, .string p, .string m, .string ByteArray.empty]
/-- The cells of a version of the specification. -/
abbrev scells (a b c : Int) (p m : ByteArray) : Array Value := #[.int .u64 a, .int .u64 b, .int .u64 c, .string p, .string m]

def segC (a b : Int) : Int := if a < b then -1 else if b < a then 1 else 0

theorem segment_any (a b : Int) (w : World) : Calls Tryd.prog 64 #[.int .u64 a, .int .u64 b] w fun e w' => e = .returned (.int .i64 (segC a b)) ∧ w = w' := by
  go_enter Tryd.func64, Tryd.ntmps64
  by_cases h : a < b
  · go_wp2_with fail
    go_ret
    exact ⟨ret_i (by simp [segC, h]), rfl⟩
  · by_cases h2 : b < a
    · go_wp2_with fail
      go_ret
      exact ⟨ret_i (by simp [segC, h, h2]), rfl⟩
    · go_wp2_with fail
      go_ret
      exact ⟨ret_i (by unfold segC; rw [if_neg (by omega), if_neg (by omega)]), rfl⟩

theorem major_any (a b c : Int) (p m : ByteArray) (w : World) : Calls Tryd.prog 56 #[.agg (vcells a b c p m)] w fun e w' => e = .returned (.int .u64 a) ∧ w' = w.alloc (.cells (vcells a b c p m) 67) := by
  go_enter Tryd.func56, Tryd.ntmps56
  go_wp2_with fail
  go_ret
  exact ⟨rfl, rfl⟩
theorem minor_any (a b c : Int) (p m : ByteArray) (w : World) : Calls Tryd.prog 57 #[.agg (vcells a b c p m)] w fun e w' => e = .returned (.int .u64 b) ∧ w' = w.alloc (.cells (vcells a b c p m) 67) := by
  go_enter Tryd.func57, Tryd.ntmps57
  go_wp2_with fail
  go_ret
  exact ⟨rfl, rfl⟩
theorem patch_any (a b c : Int) (p m : ByteArray) (w : World) : Calls Tryd.prog 58 #[.agg (vcells a b c p m)] w fun e w' => e = .returned (.int .u64 c) ∧ w' = w.alloc (.cells (vcells a b c p m) 67) := by
  go_enter Tryd.func58, Tryd.ntmps58
  go_wp2_with fail
  go_ret
  exact ⟨rfl, rfl⟩
theorem prerelease_any (a b c : Int) (p m : ByteArray) (w : World) : Calls Tryd.prog 53 #[.agg (vcells a b c p m)] w fun e w' => e = .returned (.string p) ∧ w' = w.alloc (.cells (vcells a b c p m) 67) := by
  go_enter Tryd.func53, Tryd.ntmps53
  go_wp2_with fail
  go_ret
  exact ⟨rfl, rfl⟩

theorem zzVersion_any (a b c : Int) (p m : ByteArray) (w : World) : Calls Tryd.prog 34 #[.int .u64 a, .int .u64 b, .int .u64 c, .string p, .string m] w fun e w' =>
    e = .returned (.pointer (some ⟨w.heap.size, 0, none⟩)) ∧ w' = w.alloc (.cells (vcells a b c p m) 67) := by
  go_enter Tryd.func34, Tryd.ntmps34
  go_wp2_with fail
  go_ret
  exact ⟨rfl, rfl⟩

theorem version_any (a b c : Int) (p m : ByteArray) (w : World) : Calls Tryd.prog 24 #[.agg (scells a b c p m)] w fun e w' =>
    e = .returned (.pointer (some ⟨w.heap.size + 1, 0, none⟩)) ∧ w' = (w.alloc (.cells (scells a b c p m) 25)).alloc (.cells (vcells a b c p m) 67) := by
  go_enter Tryd.func24, Tryd.ntmps24
  go_wp2_with (go_at_call 34; refine (zzVersion_any a b c p m _).mono ?_; rintro e w' ⟨rfl, rfl⟩)
  go_ret
  exact ⟨by simp, rfl⟩

theorem fits14_any (a b c : Int) (p m : ByteArray) (w : World) (hp : p.size ≤ maxLen) (hm : m.size ≤ maxLen) : Calls Tryd.prog 6 #[.agg (scells a b c p m)] w fun e w' =>
    e = .returned (.bool (decide (p.size ≤ 2147483647) && decide (m.size ≤ 2147483647))) ∧ Below w.heap.size w w' := by
  unfold maxLen at hp hm
  go_enter Tryd.func6, Tryd.ntmps6
  by_cases h1 : p.size ≤ 2147483647
  · by_cases h2 : m.size ≤ 2147483647
    · go_wp2_with fail
      go_ret
      exact ⟨ret_b (by simp [h1, h2]), by go_grown⟩
    · go_wp2_with fail
      go_ret
      exact ⟨ret_b (by simp [h1, h2]), by go_grown⟩
  · go_wp2_with fail
    go_ret
    exact ⟨ret_b (by simp [h1]), by go_grown⟩
end Go.Proofs.YtkohcmgckkenpaaDoor
