/- The specification's next block of versions, walked. -/
import Derived.Test.YtkohcmgckkenpaaDoorVerA
import Derived.IntWalk
set_option linter.unusedVariables false
set_option linter.unusedSimpArgs false
namespace Go.Proofs.YtkohcmgckkenpaaDoor
open Go.RowKit

theorem bare_any (a b c : Int) (p m : ByteArray) (w : World) : Calls Tryd.prog 12 #[.agg (scells a b c p m)] w fun e w' => e = .returned (.agg (scells a b c ByteArray.empty ByteArray.empty)) ∧ Below w.heap.size w w' := by
  go_enter Tryd.func12, Tryd.ntmps12
  go_wp2_with fail
  go_returns
  exact ⟨rfl, by go_grown⟩

set_option maxRecDepth 100000 in
theorem block3_patch (a b c : Int) (p m : ByteArray) (w : World) (hc0 : 0 ≤ c) (hc : c < 18446744073709551615) : Calls Tryd.prog 50 #[.agg (scells a b c p m), .int .i64 3] w fun e w' =>
    e = .returned (.tuple #[.agg (scells a b (c + 1) ByteArray.empty ByteArray.empty), .bool true]) ∧ Below w.heap.size w w' := by
  have hwc : IntKind.u64.wrap (c + 1) = c + 1 := IntWalk.u64_in _ (by omega)
  have hnec : (c + 1 == 0) = false := by simp; omega
  go_enter Tryd.func50, Tryd.ntmps50
  go_wp2_with fail
  go_rounds 5
  go_rounds 5
  go_returns
  exact ⟨rfl, by go_grown⟩

set_option maxRecDepth 100000 in
theorem block3_minor (a b c : Int) (p m : ByteArray) (w : World) (hb0 : 0 ≤ b) (hb : b < 18446744073709551615) (hc : c = 18446744073709551615) : Calls Tryd.prog 50 #[.agg (scells a b c p m), .int .i64 3] w fun e w' =>
    e = .returned (.tuple #[.agg (scells a (b + 1) 0 ByteArray.empty ByteArray.empty), .bool true]) ∧ Below w.heap.size w w' := by
  subst hc
  have hwb : IntKind.u64.wrap (b + 1) = b + 1 := IntWalk.u64_in _ (by omega)
  have hneb : (b + 1 == 0) = false := by simp; omega
  have hwc : IntKind.u64.wrap (18446744073709551615 + 1) = 0 := by decide
  go_enter Tryd.func50, Tryd.ntmps50
  go_wp2_with fail
  go_rounds 5
  go_rounds 5
  go_rounds 5
  go_returns
  exact ⟨rfl, by go_grown⟩

set_option maxRecDepth 100000 in
theorem block3_major (a b c : Int) (p m : ByteArray) (w : World) (ha0 : 0 ≤ a) (ha : a < 18446744073709551615) (hb : b = 18446744073709551615) (hc : c = 18446744073709551615) : Calls Tryd.prog 50 #[.agg (scells a b c p m), .int .i64 3] w fun e w' =>
    e = .returned (.tuple #[.agg (scells (a + 1) 0 0 ByteArray.empty ByteArray.empty), .bool true]) ∧ Below w.heap.size w w' := by
  subst hc; subst hb
  have hwa : IntKind.u64.wrap (a + 1) = a + 1 := IntWalk.u64_in _ (by omega)
  have hnea : (a + 1 == 0) = false := by simp; omega
  have hwc : IntKind.u64.wrap (18446744073709551615 + 1) = 0 := by decide
  go_enter Tryd.func50, Tryd.ntmps50
  go_wp2_with fail
  go_rounds 5
  go_rounds 5
  go_rounds 5
  go_rounds 5
  go_returns
  exact ⟨rfl, by go_grown⟩

set_option maxRecDepth 100000 in
theorem block3_none (a b c : Int) (p m : ByteArray) (w : World) (ha : a = 18446744073709551615) (hb : b = 18446744073709551615) (hc : c = 18446744073709551615) : Calls Tryd.prog 50 #[.agg (scells a b c p m), .int .i64 3] w fun e w' =>
    e = .returned (.tuple #[.agg (scells 0 0 0 ByteArray.empty ByteArray.empty), .bool false]) ∧ Below w.heap.size w w' := by
  subst hc; subst hb; subst ha
  have hwc : IntKind.u64.wrap (18446744073709551615 + 1) = 0 := by decide
  go_enter Tryd.func50, Tryd.ntmps50
  go_wp2_with fail
  go_rounds 5
  go_rounds 5
  go_rounds 5
  go_rounds 5
  go_returns
  exact ⟨rfl, by go_grown⟩

end Go.Proofs.YtkohcmgckkenpaaDoor
