/- The operators and the inner constraints; check; the doors of the constraint functions. -/
import Derived.Test.YtkohcmgckkenpaaDoorOpKit
set_option linter.unusedVariables false
set_option linter.unusedSimpArgs false
namespace Go.Proofs.YtkohcmgckkenpaaDoor
open Go.RowKit

def opS : Nat → ByteArray
  | 0 => ⟨#[61]⟩
  | 1 => ⟨#[33, 61]⟩
  | 2 => ⟨#[62]⟩
  | 3 => ⟨#[60]⟩
  | 4 => ⟨#[62, 61]⟩
  | 5 => ⟨#[60, 61]⟩
  | 6 => ⟨#[126]⟩
  | _ => ⟨#[94]⟩

theorem operator_0 (w : World) : Calls Tryd.prog 41 #[.int .i64 0] w fun e w' => e = .returned (.string ⟨#[61]⟩) ∧ w = w' := by
  have hb : bits BinOp.and IntKind.i64 0 7 = 0 := by kernel_rfl
  go_enter Tryd.func41, Tryd.ntmps41
  go_wp2_with fail
  go_ret
  exact ⟨rfl, rfl⟩
theorem operator_1 (w : World) : Calls Tryd.prog 41 #[.int .i64 1] w fun e w' => e = .returned (.string ⟨#[33, 61]⟩) ∧ w = w' := by
  have hb : bits BinOp.and IntKind.i64 1 7 = 1 := by kernel_rfl
  go_enter Tryd.func41, Tryd.ntmps41
  go_wp2_with fail
  go_ret
  exact ⟨rfl, rfl⟩
theorem operator_2 (w : World) : Calls Tryd.prog 41 #[.int .i64 2] w fun e w' => e = .returned (.string ⟨#[62]⟩) ∧ w = w' := by
  have hb : bits BinOp.and IntKind.i64 2 7 = 2 := by kernel_rfl
  go_enter Tryd.func41, Tryd.ntmps41
  go_wp2_with fail
  go_ret
  exact ⟨rfl, rfl⟩
theorem operator_3 (w : World) : Calls Tryd.prog 41 #[.int .i64 3] w fun e w' => e = .returned (.string ⟨#[60]⟩) ∧ w = w' := by
  have hb : bits BinOp.and IntKind.i64 3 7 = 3 := by kernel_rfl
  go_enter Tryd.func41, Tryd.ntmps41
  go_wp2_with fail
  go_ret
  exact ⟨rfl, rfl⟩
theorem operator_4 (w : World) : Calls Tryd.prog 41 #[.int .i64 4] w fun e w' => e = .returned (.string ⟨#[62, 61]⟩) ∧ w = w' := by
  have hb : bits BinOp.and IntKind.i64 4 7 = 4 := by kernel_rfl
  go_enter Tryd.func41, Tryd.ntmps41
  go_wp2_with fail
  go_ret
  exact ⟨rfl, rfl⟩
theorem operator_5 (w : World) : Calls Tryd.prog 41 #[.int .i64 5] w fun e w' => e = .returned (.string ⟨#[60, 61]⟩) ∧ w = w' := by
  have hb : bits BinOp.and IntKind.i64 5 7 = 5 := by kernel_rfl
  go_enter Tryd.func41, Tryd.ntmps41
  go_wp2_with fail
  go_ret
  exact ⟨rfl, rfl⟩
theorem operator_6 (w : World) : Calls Tryd.prog 41 #[.int .i64 6] w fun e w' => e = .returned (.string ⟨#[126]⟩) ∧ w = w' := by
  have hb : bits BinOp.and IntKind.i64 6 7 = 6 := by kernel_rfl
  go_enter Tryd.func41, Tryd.ntmps41
  go_wp2_with fail
  go_ret
  exact ⟨rfl, rfl⟩
theorem operator_7 (w : World) : Calls Tryd.prog 41 #[.int .i64 7] w fun e w' => e = .returned (.string ⟨#[94]⟩) ∧ w = w' := by
  have hb : bits BinOp.and IntKind.i64 7 7 = 7 := by kernel_rfl
  go_enter Tryd.func41, Tryd.ntmps41
  go_wp2_with fail
  go_ret
  exact ⟨rfl, rfl⟩
theorem operator_any (o : Nat) (ho : o < 8) (w : World) : Calls Tryd.prog 41 #[.int .i64 o] w fun e w' => e = .returned (.string (opS o)) ∧ w = w' := by
  obtain rfl | rfl | rfl | rfl | rfl | rfl | rfl | rfl : o = 0 ∨ o = 1 ∨ o = 2 ∨ o = 3 ∨ o = 4 ∨ o = 5 ∨ o = 6 ∨ o = 7 := by omega
  · exact operator_0 w
  · exact operator_1 w
  · exact operator_2 w
  · exact operator_3 w
  · exact operator_4 w
  · exact operator_5 w
  · exact operator_6 w
  · exact operator_7 w

abbrev zcells (op : ByteArray) (h : Nat) (di mi pa : Bool) : Array Value := #[.string op, .pointer (some ⟨h, 0, none⟩), .bool di, .bool mi, .bool pa]
abbrev ccells (op : ByteArray) (h : Nat) (di mi pa : Bool) : Array Value := #[.pointer (some ⟨h, 0, none⟩), .string ByteArray.empty, .string op, .bool mi, .bool di, .bool pa]
theorem inner_any (op : ByteArray) (h : Nat) (di mi pa : Bool) (w : World) : Calls Tryd.prog 31 #[.agg (zcells op h di mi pa)] w fun e w' =>
    e = .returned (.pointer (some ⟨w.heap.size + 1, 0, none⟩)) ∧ w' = (w.alloc (.cells (zcells op h di mi pa) 63)).alloc (.cells (ccells op h di mi pa) 79) := by
  go_enter Tryd.func31, Tryd.ntmps31
  go_wp2_with fail
  go_ret
  exact ⟨by simp, rfl⟩

/-- What an operator's function says of the two. -/
def OpIs (f : FuncId) (g h : Nat) (a b c : Int) (p m : ByteArray) (a' b' c' : Int) (p' m' op og : ByteArray) (mi di pa pre r : Bool) : Prop :=
  ∀ k W, CF W g h k a b c p m a' b' c' p' m' op og mi di pa → Vars W → Calls Tryd.prog f #[.pointer (some ⟨g, 0, none⟩), .pointer (some ⟨k, 0, none⟩), .bool pre] W fun e w' => (∃ er, e = .returned (.tuple #[.bool r, er])) ∧ Below W.heap.size W w'

theorem cf_new {g h : Nat} {a b c : Int} {p m : ByteArray} {a' b' c' : Int} {p' m' op : ByteArray} {mi di pa : Bool} {w : World} (x y : Obj) (vg : Blk w g 67 (vcells a b c p m)) (vh : Blk w h 67 (vcells a' b' c' p' m')) (ne : g ≠ h) :
    CF (((w.alloc x).alloc y).alloc (.cells (ccells op h di mi pa) 79)) g h (w.heap.size + 2) a b c p m a' b' c' p' m' op ByteArray.empty mi di pa := by
  refine ⟨((vg.alloc _).alloc _).alloc _, ((vh.alloc _).alloc _).alloc _, ?_, ne⟩
  have := Blk.new ((w.alloc x).alloc y) 79 (ccells op h di mi pa)
  simpa using this

end Go.Proofs.YtkohcmgckkenpaaDoor
