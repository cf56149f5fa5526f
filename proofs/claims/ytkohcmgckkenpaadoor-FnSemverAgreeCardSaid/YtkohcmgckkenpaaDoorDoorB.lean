/- check, an operator each; ZZCheck. -/
import Derived.Test.YtkohcmgckkenpaaDoorDoorA
set_option linter.unusedVariables false
set_option linter.unusedSimpArgs false
namespace Go.Proofs.YtkohcmgckkenpaaDoor
open Go.RowKit

set_option maxRecDepth 100000 in
theorem check_0 (g h k : Nat) (a b c : Int) (p m : ByteArray) (a' b' c' : Int) (p' m' og : ByteArray) (mi di pa pre r : Bool) (w : World) (hcf : CF w g h k a b c p m a' b' c' p' m' ⟨#[61]⟩ og mi di pa) (hv : Vars w)
    (ho : OpIs 42 g h a b c p m a' b' c' p' m' ⟨#[61]⟩ og mi di pa pre r) :
    Calls Tryd.prog 33 #[.pointer (some ⟨k, 0, none⟩), .pointer (some ⟨g, 0, none⟩), .bool pre] w fun e w' => (∃ er, e = .returned (.tuple #[.bool r, er])) ∧ Below w.heap.size w w' := by
  have h1 := ho k w hcf hv
  have HO := hid h1
  have k2 : w.cell? ⟨k, 2, none⟩ = some (.string ⟨#[61]⟩) := hcf.vk.cell 2
  clear ho h1 hcf hv
  go_enter Tryd.func33, Tryd.ntmps33
  go_wp2_with (go_at_call 42; refine HO.out.mono ?_; rintro e w' ⟨⟨er, rfl⟩, hb⟩)
  go_returns
  exact ⟨⟨_, rfl⟩, hb⟩

set_option maxRecDepth 100000 in
theorem check_1 (g h k : Nat) (a b c : Int) (p m : ByteArray) (a' b' c' : Int) (p' m' og : ByteArray) (mi di pa pre r : Bool) (w : World) (hcf : CF w g h k a b c p m a' b' c' p' m' ⟨#[33, 61]⟩ og mi di pa) (hv : Vars w)
    (ho : OpIs 43 g h a b c p m a' b' c' p' m' ⟨#[33, 61]⟩ og mi di pa pre r) :
    Calls Tryd.prog 33 #[.pointer (some ⟨k, 0, none⟩), .pointer (some ⟨g, 0, none⟩), .bool pre] w fun e w' => (∃ er, e = .returned (.tuple #[.bool r, er])) ∧ Below w.heap.size w w' := by
  have h1 := ho k w hcf hv
  have HO := hid h1
  have k2 : w.cell? ⟨k, 2, none⟩ = some (.string ⟨#[33, 61]⟩) := hcf.vk.cell 2
  clear ho h1 hcf hv
  go_enter Tryd.func33, Tryd.ntmps33
  go_wp2_with (go_at_call 43; refine HO.out.mono ?_; rintro e w' ⟨⟨er, rfl⟩, hb⟩)
  go_returns
  exact ⟨⟨_, rfl⟩, hb⟩

set_option maxRecDepth 100000 in
theorem check_2 (g h k : Nat) (a b c : Int) (p m : ByteArray) (a' b' c' : Int) (p' m' og : ByteArray) (mi di pa pre r : Bool) (w : World) (hcf : CF w g h k a b c p m a' b' c' p' m' ⟨#[62]⟩ og mi di pa) (hv : Vars w)
    (ho : OpIs 44 g h a b c p m a' b' c' p' m' ⟨#[62]⟩ og mi di pa pre r) :
    Calls Tryd.prog 33 #[.pointer (some ⟨k, 0, none⟩), .pointer (some ⟨g, 0, none⟩), .bool pre] w fun e w' => (∃ er, e = .returned (.tuple #[.bool r, er])) ∧ Below w.heap.size w w' := by
  have h1 := ho k w hcf hv
  have HO := hid h1
  have k2 : w.cell? ⟨k, 2, none⟩ = some (.string ⟨#[62]⟩) := hcf.vk.cell 2
  clear ho h1 hcf hv
  go_enter Tryd.func33, Tryd.ntmps33
  go_wp2_with (go_at_call 44; refine HO.out.mono ?_; rintro e w' ⟨⟨er, rfl⟩, hb⟩)
  go_returns
  exact ⟨⟨_, rfl⟩, hb⟩

set_option maxRecDepth 100000 in
theorem check_3 (g h k : Nat) (a b c : Int) (p m : ByteArray) (a' b' c' : Int) (p' m' og : ByteArray) (mi di pa pre r : Bool) (w : World) (hcf : CF w g h k a b c p m a' b' c' p' m' ⟨#[60]⟩ og mi di pa) (hv : Vars w)
    (ho : OpIs 45 g h a b c p m a' b' c' p' m' ⟨#[60]⟩ og mi di pa pre r) :
    Calls Tryd.prog 33 #[.pointer (some ⟨k, 0, none⟩), .pointer (some ⟨g, 0, none⟩), .bool pre] w fun e w' => (∃ er, e = .returned (.tuple #[.bool r, er])) ∧ Below w.heap.size w w' := by
  have h1 := ho k w hcf hv
  have HO := hid h1
  have k2 : w.cell? ⟨k, 2, none⟩ = some (.string ⟨#[60]⟩) := hcf.vk.cell 2
  clear ho h1 hcf hv
  go_enter Tryd.func33, Tryd.ntmps33
  go_wp2_with (go_at_call 45; refine HO.out.mono ?_; rintro e w' ⟨⟨er, rfl⟩, hb⟩)
  go_returns
  exact ⟨⟨_, rfl⟩, hb⟩

set_option maxRecDepth 100000 in
theorem check_4 (g h k : Nat) (a b c : Int) (p m : ByteArray) (a' b' c' : Int) (p' m' og : ByteArray) (mi di pa pre r : Bool) (w : World) (hcf : CF w g h k a b c p m a' b' c' p' m' ⟨#[62, 61]⟩ og mi di pa) (hv : Vars w)
    (ho : OpIs 46 g h a b c p m a' b' c' p' m' ⟨#[62, 61]⟩ og mi di pa pre r) :
    Calls Tryd.prog 33 #[.pointer (some ⟨k, 0, none⟩), .pointer (some ⟨g, 0, none⟩), .bool pre] w fun e w' => (∃ er, e = .returned (.tuple #[.bool r, er])) ∧ Below w.heap.size w w' := by
  have h1 := ho k w hcf hv
  have HO := hid h1
  have k2 : w.cell? ⟨k, 2, none⟩ = some (.string ⟨#[62, 61]⟩) := hcf.vk.cell 2
  clear ho h1 hcf hv
  go_enter Tryd.func33, Tryd.ntmps33
  go_wp2_with (go_at_call 46; refine HO.out.mono ?_; rintro e w' ⟨⟨er, rfl⟩, hb⟩)
  go_returns
  exact ⟨⟨_, rfl⟩, hb⟩

set_option maxRecDepth 100000 in
theorem check_5 (g h k : Nat) (a b c : Int) (p m : ByteArray) (a' b' c' : Int) (p' m' og : ByteArray) (mi di pa pre r : Bool) (w : World) (hcf : CF w g h k a b c p m a' b' c' p' m' ⟨#[60, 61]⟩ og mi di pa) (hv : Vars w)
    (ho : OpIs 47 g h a b c p m a' b' c' p' m' ⟨#[60, 61]⟩ og mi di pa pre r) :
    Calls Tryd.prog 33 #[.pointer (some ⟨k, 0, none⟩), .pointer (some ⟨g, 0, none⟩), .bool pre] w fun e w' => (∃ er, e = .returned (.tuple #[.bool r, er])) ∧ Below w.heap.size w w' := by
  have h1 := ho k w hcf hv
  have HO := hid h1
  have k2 : w.cell? ⟨k, 2, none⟩ = some (.string ⟨#[60, 61]⟩) := hcf.vk.cell 2
  clear ho h1 hcf hv
  go_enter Tryd.func33, Tryd.ntmps33
  go_wp2_with (go_at_call 47; refine HO.out.mono ?_; rintro e w' ⟨⟨er, rfl⟩, hb⟩)
  go_returns
  exact ⟨⟨_, rfl⟩, hb⟩

set_option maxRecDepth 100000 in
theorem check_6 (g h k : Nat) (a b c : Int) (p m : ByteArray) (a' b' c' : Int) (p' m' og : ByteArray) (mi di pa pre r : Bool) (w : World) (hcf : CF w g h k a b c p m a' b' c' p' m' ⟨#[126]⟩ og mi di pa) (hv : Vars w)
    (ho : OpIs 48 g h a b c p m a' b' c' p' m' ⟨#[126]⟩ og mi di pa pre r) :
    Calls Tryd.prog 33 #[.pointer (some ⟨k, 0, none⟩), .pointer (some ⟨g, 0, none⟩), .bool pre] w fun e w' => (∃ er, e = .returned (.tuple #[.bool r, er])) ∧ Below w.heap.size w w' := by
  have h1 := ho k w hcf hv
  have HO := hid h1
  have k2 : w.cell? ⟨k, 2, none⟩ = some (.string ⟨#[126]⟩) := hcf.vk.cell 2
  clear ho h1 hcf hv
  go_enter Tryd.func33, Tryd.ntmps33
  go_wp2_with (go_at_call 48; refine HO.out.mono ?_; rintro e w' ⟨⟨er, rfl⟩, hb⟩)
  go_returns
  exact ⟨⟨_, rfl⟩, hb⟩

set_option maxRecDepth 100000 in
theorem check_7 (g h k : Nat) (a b c : Int) (p m : ByteArray) (a' b' c' : Int) (p' m' og : ByteArray) (mi di pa pre r : Bool) (w : World) (hcf : CF w g h k a b c p m a' b' c' p' m' ⟨#[94]⟩ og mi di pa) (hv : Vars w)
    (ho : OpIs 49 g h a b c p m a' b' c' p' m' ⟨#[94]⟩ og mi di pa pre r) :
    Calls Tryd.prog 33 #[.pointer (some ⟨k, 0, none⟩), .pointer (some ⟨g, 0, none⟩), .bool pre] w fun e w' => (∃ er, e = .returned (.tuple #[.bool r, er])) ∧ Below w.heap.size w w' := by
  have h1 := ho k w hcf hv
  have HO := hid h1
  have k2 : w.cell? ⟨k, 2, none⟩ = some (.string ⟨#[94]⟩) := hcf.vk.cell 2
  clear ho h1 hcf hv
  go_enter Tryd.func33, Tryd.ntmps33
  go_wp2_with (go_at_call 49; refine HO.out.mono ?_; rintro e w' ⟨⟨er, rfl⟩, hb⟩)
  go_returns
  exact ⟨⟨_, rfl⟩, hb⟩

/-- The function of an operator. -/
def opF : Nat → FuncId
  | 0 => 42
  | 1 => 43
  | 2 => 44
  | 3 => 45
  | 4 => 46
  | 5 => 47
  | 6 => 48
  | _ => 49
theorem check_any (o : Nat) (ho8 : o < 8) (g h k : Nat) (a b c : Int) (p m : ByteArray) (a' b' c' : Int) (p' m' og : ByteArray) (mi di pa pre r : Bool) (w : World) (hcf : CF w g h k a b c p m a' b' c' p' m' (opS o) og mi di pa) (hv : Vars w)
    (ho : OpIs (opF o) g h a b c p m a' b' c' p' m' (opS o) og mi di pa pre r) :
    Calls Tryd.prog 33 #[.pointer (some ⟨k, 0, none⟩), .pointer (some ⟨g, 0, none⟩), .bool pre] w fun e w' => (∃ er, e = .returned (.tuple #[.bool r, er])) ∧ Below w.heap.size w w' := by
  obtain rfl | rfl | rfl | rfl | rfl | rfl | rfl | rfl : o = 0 ∨ o = 1 ∨ o = 2 ∨ o = 3 ∨ o = 4 ∨ o = 5 ∨ o = 6 ∨ o = 7 := by omega
  · exact check_0 g h k a b c p m a' b' c' p' m' og mi di pa pre r w hcf hv ho
  · exact check_1 g h k a b c p m a' b' c' p' m' og mi di pa pre r w hcf hv ho
  · exact check_2 g h k a b c p m a' b' c' p' m' og mi di pa pre r w hcf hv ho
  · exact check_3 g h k a b c p m a' b' c' p' m' og mi di pa pre r w hcf hv ho
  · exact check_4 g h k a b c p m a' b' c' p' m' og mi di pa pre r w hcf hv ho
  · exact check_5 g h k a b c p m a' b' c' p' m' og mi di pa pre r w hcf hv ho
  · exact check_6 g h k a b c p m a' b' c' p' m' og mi di pa pre r w hcf hv ho
  · exact check_7 g h k a b c p m a' b' c' p' m' og mi di pa pre r w hcf hv ho

end Go.Proofs.YtkohcmgckkenpaaDoor
