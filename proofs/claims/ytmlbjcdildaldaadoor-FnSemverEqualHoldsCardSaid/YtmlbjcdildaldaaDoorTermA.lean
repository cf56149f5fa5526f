/- Terms made out of versions: stTerm, stHolds, stBare, walked. -/
import Derived.Test.YtmlbjcdildaldaaDoorOpIs
import Derived.Test.YtmlbjcdildaldaaDoorDoor
set_option linter.unusedVariables false
set_option linter.unusedSimpArgs false
namespace Go.Proofs.YtmlbjcdildaldaaDoor
open Go.RowKit

theorem bare_exact (a b c : Int) (p m : ByteArray) (w : World) : Calls Tryd.prog 39 #[.agg (scells a b c p m)] w fun e w' => e = .returned (.agg (scells a b c ByteArray.empty ByteArray.empty)) ∧ w' = (w.alloc (.cells (scells a b c p m) 27)).alloc (.cells (scells a b c ByteArray.empty ByteArray.empty) 27) := by
  go_enter Tryd.func39, Tryd.ntmps39
  go_wp2_with fail
  go_returns
  exact ⟨rfl, rfl⟩

/-- The first k numbers of a version, and its prerelease if there are three. -/
abbrev cutN (k : Nat) (n : Nat) (x : Int) : Int := if n < k then x else 0
abbrev cutP (k : Nat) (p : ByteArray) : ByteArray := if 2 < k then p else ByteArray.empty

theorem stTerm_0 (o : Int) (a b c : Int) (p m : ByteArray) (w : World) :
    Calls Tryd.prog 36 #[.int .i64 o, .agg (scells a b c p m), .int .i64 0] w fun e w' => e = .returned (.agg #[.int .i64 o, .int .i64 0, .int .u64 a, .int .u64 0, .int .u64 0, .string ByteArray.empty]) ∧ Below w.heap.size w w' := by
  go_enter Tryd.func36, Tryd.ntmps36
  go_wp2_with fail
  go_returns
  exact ⟨rfl, by go_grown⟩

theorem stTerm_1 (o : Int) (a b c : Int) (p m : ByteArray) (w : World) :
    Calls Tryd.prog 36 #[.int .i64 o, .agg (scells a b c p m), .int .i64 1] w fun e w' => e = .returned (.agg #[.int .i64 o, .int .i64 1, .int .u64 a, .int .u64 0, .int .u64 0, .string ByteArray.empty]) ∧ Below w.heap.size w w' := by
  go_enter Tryd.func36, Tryd.ntmps36
  go_wp2_with fail
  go_returns
  exact ⟨rfl, by go_grown⟩

theorem stTerm_2 (o : Int) (a b c : Int) (p m : ByteArray) (w : World) :
    Calls Tryd.prog 36 #[.int .i64 o, .agg (scells a b c p m), .int .i64 2] w fun e w' => e = .returned (.agg #[.int .i64 o, .int .i64 2, .int .u64 a, .int .u64 b, .int .u64 0, .string ByteArray.empty]) ∧ Below w.heap.size w w' := by
  go_enter Tryd.func36, Tryd.ntmps36
  go_wp2_with fail
  go_returns
  exact ⟨rfl, by go_grown⟩

theorem stTerm_3 (o : Int) (a b c : Int) (p m : ByteArray) (w : World) :
    Calls Tryd.prog 36 #[.int .i64 o, .agg (scells a b c p m), .int .i64 3] w fun e w' => e = .returned (.agg #[.int .i64 o, .int .i64 3, .int .u64 a, .int .u64 b, .int .u64 c, .string p]) ∧ Below w.heap.size w w' := by
  go_enter Tryd.func36, Tryd.ntmps36
  go_wp2_with fail
  go_region
  all_goals (go_wp2_with fail; go_returns; exact ⟨rfl, by go_grown⟩)

theorem stTerm_any (o : Int) (k : Nat) (hk : k ≤ 3) (a b c : Int) (p m : ByteArray) (w : World) :
    Calls Tryd.prog 36 #[.int .i64 o, .agg (scells a b c p m), .int .i64 k] w fun e w' => e = .returned (.agg #[.int .i64 o, .int .i64 k, .int .u64 a, .int .u64 (cutN k 1 b), .int .u64 (cutN k 2 c), .string (cutP k p)]) ∧ Below w.heap.size w w' := by
  obtain rfl | rfl | rfl | rfl : k = 0 ∨ k = 1 ∨ k = 2 ∨ k = 3 := by omega
  · exact stTerm_0 o a b c p m w
  · exact stTerm_1 o a b c p m w
  · exact stTerm_2 o a b c p m w
  · exact stTerm_3 o a b c p m w

end Go.Proofs.YtmlbjcdildaldaaDoor
