/- check, an operator each; ZZCheck. -/
import Derived.Test.YtmlbjcdildaldaaDoorDoorA
set_option linter.unusedVariables false
set_option linter.unusedSimpArgs false
namespace Go.Proofs.YtmlbjcdildaldaaDoor
open Go.RowKit

set_option maxRecDepth 100000 in
theorem check_0 (g h k : Nat) (a b c : Int) (p m : ByteArray) (a' b' c' : Int) (p' m' og : ByteArray) (mi di pa pre r : Bool) (w : World) (hcf : CF w g h k a b c p m a' b' c' p' m' ⟨#[61]⟩ og mi di pa) (hv : Vars w)
    (ho : OpIs 103 g h a b c p m a' b' c' p' m' ⟨#[61]⟩ og mi di pa pre r) :
    Calls Tryd.prog 105 #[.pointer (some ⟨k, 0, none⟩), .pointer (some ⟨g, 0, none⟩), .bool pre] w fun e w' => (∃ er, e = .returned (.tuple #[.bool r, er])) ∧ Below w.heap.size w w' := by
  have h1 := ho k w hcf hv
  have HO := hid h1
  have k2 : w.cell? ⟨k, 2, none⟩ = some (.string ⟨#[61]⟩) := hcf.vk.cell 2
  clear ho h1 hcf hv
  go_enter Tryd.func105, Tryd.ntmps105
  go_wp2_with (go_at_call 103; refine HO.out.mono ?_; rintro e w' ⟨⟨er, rfl⟩, hb⟩)
  go_returns
  exact ⟨⟨_, rfl⟩, hb⟩

set_option maxRecDepth 100000 in
theorem check_1 (g h k : Nat) (a b c : Int) (p m : ByteArray) (a' b' c' : Int) (p' m' og : ByteArray) (mi di pa pre r : Bool) (w : World) (hcf : CF w g h k a b c p m a' b' c' p' m' ⟨#[33, 61]⟩ og mi di pa) (hv : Vars w)
    (ho : OpIs 108 g h a b c p m a' b' c' p' m' ⟨#[33, 61]⟩ og mi di pa pre r) :
    Calls Tryd.prog 105 #[.pointer (some ⟨k, 0, none⟩), .pointer (some ⟨g, 0, none⟩), .bool pre] w fun e w' => (∃ er, e = .returned (.tuple #[.bool r, er])) ∧ Below w.heap.size w w' := by
  have h1 := ho k w hcf hv
  have HO := hid h1
  have k2 : w.cell? ⟨k, 2, none⟩ = some (.string ⟨#[33, 61]⟩) := hcf.vk.cell 2
  clear ho h1 hcf hv
  go_enter Tryd.func105, Tryd.ntmps105
  go_wp2_with (go_at_call 108; refine HO.out.mono ?_; rintro e w' ⟨⟨er, rfl⟩, hb⟩)
  go_returns
  exact ⟨⟨_, rfl⟩, hb⟩

set_option maxRecDepth 100000 in
theorem check_2 (g h k : Nat) (a b c : Int) (p m : ByteArray) (a' b' c' : Int) (p' m' og : ByteArray) (mi di pa pre r : Bool) (w : World) (hcf : CF w g h k a b c p m a' b' c' p' m' ⟨#[62]⟩ og mi di pa) (hv : Vars w)
    (ho : OpIs 109 g h a b c p m a' b' c' p' m' ⟨#[62]⟩ og mi di pa pre r) :
    Calls Tryd.prog 105 #[.pointer (some ⟨k, 0, none⟩), .pointer (some ⟨g, 0, none⟩), .bool pre] w fun e w' => (∃ er, e = .returned (.tuple #[.bool r, er])) ∧ Below w.heap.size w w' := by
  have h1 := ho k w hcf hv
  have HO := hid h1
  have k2 : w.cell? ⟨k, 2, none⟩ = some (.string ⟨#[62]⟩) := hcf.vk.cell 2
  clear ho h1 hcf hv
  go_enter Tryd.func105, Tryd.ntmps105
  go_wp2_with (go_at_call 109; refine HO.out.mono ?_; rintro e w' ⟨⟨er, rfl⟩, hb⟩)
  go_returns
  exact ⟨⟨_, rfl⟩, hb⟩

set_option maxRecDepth 100000 in
theorem check_3 (g h k : Nat) (a b c : Int) (p m : ByteArray) (a' b' c' : Int) (p' m' og : ByteArray) (mi di pa pre r : Bool) (w : World) (hcf : CF w g h k a b c p m a' b' c' p' m' ⟨#[60]⟩ og mi di pa) (hv : Vars w)
    (ho : OpIs 110 g h a b c p m a' b' c' p' m' ⟨#[60]⟩ og mi di pa pre r) :
    Calls Tryd.prog 105 #[.pointer (some ⟨k, 0, none⟩), .pointer (some ⟨g, 0, none⟩), .bool pre] w fun e w' => (∃ er, e = .returned (.tuple #[.bool r, er])) ∧ Below w.heap.size w w' := by
  have h1 := ho k w hcf hv
  have HO := hid h1
  have k2 : w.cell? ⟨k, 2, none⟩ = some (.string ⟨#[60]⟩) := hcf.vk.cell 2
  clear ho h1 hcf hv
  go_enter Tryd.func105, Tryd.ntmps105
  go_wp2_with (go_at_call 110; refine HO.out.mono ?_; rintro e w' ⟨⟨er, rfl⟩, hb⟩)
  go_returns
  exact ⟨⟨_, rfl⟩, hb⟩

set_option maxRecDepth 100000 in
theorem check_4 (g h k : Nat) (a b c : Int) (p m : ByteArray) (a' b' c' : Int) (p' m' og : ByteArray) (mi di pa pre r : Bool) (w : World) (hcf : CF w g h k a b c p m a' b' c' p' m' ⟨#[62, 61]⟩ og mi di pa) (hv : Vars w)
    (ho : OpIs 104 g h a b c p m a' b' c' p' m' ⟨#[62, 61]⟩ og mi di pa pre r) :
    Calls Tryd.prog 105 #[.pointer (some ⟨k, 0, none⟩), .pointer (some ⟨g, 0, none⟩), .bool pre] w fun e w' => (∃ er, e = .returned (.tuple #[.bool r, er])) ∧ Below w.heap.size w w' := by
  have h1 := ho k w hcf hv
  have HO := hid h1
  have k2 : w.cell? ⟨k, 2, none⟩ = some (.string ⟨#[62, 61]⟩) := hcf.vk.cell 2
  clear ho h1 hcf hv
  go_enter Tryd.func105, Tryd.ntmps105
  go_wp2_with (go_at_call 104; refine HO.out.mono ?_; rintro e w' ⟨⟨er, rfl⟩, hb⟩)
  go_returns
  exact ⟨⟨_, rfl⟩, hb⟩

set_option maxRecDepth 100000 in
theorem check_5 (g h k : Nat) (a b c : Int) (p m : ByteArray) (a' b' c' : Int) (p' m' og : ByteArray) (mi di pa pre r : Bool) (w : World) (hcf : CF w g h k a b c p m a' b' c' p' m' ⟨#[60, 61]⟩ og mi di pa) (hv : Vars w)
    (ho : OpIs 111 g h a b c p m a' b' c' p' m' ⟨#[60, 61]⟩ og mi di pa pre r) :
    Calls Tryd.prog 105 #[.pointer (some ⟨k, 0, none⟩), .pointer (some ⟨g, 0, none⟩), .bool pre] w fun e w' => (∃ er, e = .returned (.tuple #[.bool r, er])) ∧ Below w.heap.size w w' := by
  have h1 := ho k w hcf hv
  have HO := hid h1
  have k2 : w.cell? ⟨k, 2, none⟩ = some (.string ⟨#[60, 61]⟩) := hcf.vk.cell 2
  clear ho h1 hcf hv
  go_enter Tryd.func105, Tryd.ntmps105
  go_wp2_with (go_at_call 111; refine HO.out.mono ?_; rintro e w' ⟨⟨er, rfl⟩, hb⟩)
  go_returns
  exact ⟨⟨_, rfl⟩, hb⟩

set_option maxRecDepth 100000 in
theorem check_6 (g h k : Nat) (a b c : Int) (p m : ByteArray) (a' b' c' : Int) (p' m' og : ByteArray) (mi di pa pre r : Bool) (w : World) (hcf : CF w g h k a b c p m a' b' c' p' m' ⟨#[126]⟩ og mi di pa) (hv : Vars w)
    (ho : OpIs 112 g h a b c p m a' b' c' p' m' ⟨#[126]⟩ og mi di pa pre r) :
    Calls Tryd.prog 105 #[.pointer (some ⟨k, 0, none⟩), .pointer (some ⟨g, 0, none⟩), .bool pre] w fun e w' => (∃ er, e = .returned (.tuple #[.bool r, er])) ∧ Below w.heap.size w w' := by
  have h1 := ho k w hcf hv
  have HO := hid h1
  have k2 : w.cell? ⟨k, 2, none⟩ = some (.string ⟨#[126]⟩) := hcf.vk.cell 2
  clear ho h1 hcf hv
  go_enter Tryd.func105, Tryd.ntmps105
  go_wp2_with (go_at_call 112; refine HO.out.mono ?_; rintro e w' ⟨⟨er, rfl⟩, hb⟩)
  go_returns
  exact ⟨⟨_, rfl⟩, hb⟩

set_option maxRecDepth 100000 in
theorem check_7 (g h k : Nat) (a b c : Int) (p m : ByteArray) (a' b' c' : Int) (p' m' og : ByteArray) (mi di pa pre r : Bool) (w : World) (hcf : CF w g h k a b c p m a' b' c' p' m' ⟨#[94]⟩ og mi di pa) (hv : Vars w)
    (ho : OpIs 97 g h a b c p m a' b' c' p' m' ⟨#[94]⟩ og mi di pa pre r) :
    Calls Tryd.prog 105 #[.pointer (some ⟨k, 0, none⟩), .pointer (some ⟨g, 0, none⟩), .bool pre] w fun e w' => (∃ er, e = .returned (.tuple #[.bool r, er])) ∧ Below w.heap.size w w' := by
  have h1 := ho k w hcf hv
  have HO := hid h1
  have k2 : w.cell? ⟨k, 2, none⟩ = some (.string ⟨#[94]⟩) := hcf.vk.cell 2
  clear ho h1 hcf hv
  go_enter Tryd.func105, Tryd.ntmps105
  go_wp2_with (go_at_call 97; refine HO.out.mono ?_; rintro e w' ⟨⟨er, rfl⟩, hb⟩)
  go_returns
  exact ⟨⟨_, rfl⟩, hb⟩

/-- The function of an operator. -/
def opF : Nat → FuncId
  | 0 => 103
  | 1 => 108
  | 2 => 109
  | 3 => 110
  | 4 => 104
  | 5 => 111
  | 6 => 112
  | _ => 97
theorem check_any (o : Nat) (ho8 : o < 8) (g h k : Nat) (a b c : Int) (p m : ByteArray) (a' b' c' : Int) (p' m' og : ByteArray) (mi di pa pre r : Bool) (w : World) (hcf : CF w g h k a b c p m a' b' c' p' m' (opS o) og mi di pa) (hv : Vars w)
    (ho : OpIs (opF o) g h a b c p m a' b' c' p' m' (opS o) og mi di pa pre r) :
    Calls Tryd.prog 105 #[.pointer (some ⟨k, 0, none⟩), .pointer (some ⟨g, 0, none⟩), .bool pre] w fun e w' => (∃ er, e = .returned (.tuple #[.bool r, er])) ∧ Below w.heap.size w w' := by
  obtain rfl | rfl | rfl | rfl | rfl | rfl | rfl | rfl : o = 0 ∨ o = 1 ∨ o = 2 ∨ o = 3 ∨ o = 4 ∨ o = 5 ∨ o = 6 ∨ o = 7 := by omega
  · exact check_0 g h k a b c p m a' b' c' p' m' og mi di pa pre r w hcf hv ho
  · exact check_1 g h k a b c p m a' b' c' p' m' og mi di pa pre r w hcf hv ho
  · exact check_2 g h k a b c p m a' b' c' p' m' og mi di pa pre r w hcf hv ho
  · exact check_3 g h k a b c p m a' b' c' p' m' og mi di pa pre r w hcf hv ho
  · exact check_4 g h k a b c p m a' b' c' p' m' og mi di pa pre r w hcf hv ho
  · exact check_5 g h k a b c p m a' b' c' p' m' og mi di pa pre r w hcf hv ho
  · exact check_6 g h k a b c p m a' b' c' p' m' og mi di pa pre r w hcf hv ho
  · exact check_7 g h k a b c p m a' b' c' p' m' og mi di pa pre r w hcf hv ho

set_option maxRecDepth 100000 in
theorem zzcheck_any (o : Nat) (ho8 : o < 8) (g h : Nat) (a b c : Int) (p m : ByteArray) (a' b' c' : Int) (p' m' : ByteArray) (mi di pa pre r : Bool) (w : World) (vg : Blk w g 95 (vcells a b c p m)) (vh : Blk w h 95 (vcells a' b' c' p' m')) (ne : g ≠ h) (hv : Vars w)
    (ho : OpIs (opF o) g h a b c p m a' b' c' p' m' (opS o) ByteArray.empty mi di pa pre r) :
    Calls Tryd.prog 73 #[.agg (zcells (opS o) h di mi pa), .pointer (some ⟨g, 0, none⟩), .bool pre] w fun e w' => (∃ er, e = .returned (.tuple #[.bool r, er])) ∧ Below w.heap.size w w' := by
  have HG := hid vg
  have HH := hid vh
  have HN := hid ne
  have HV := hid hv
  have HO := hid ho
  clear vg vh ne hv ho
  go_enter Tryd.func73, Tryd.ntmps73
  go_wp2_with (first | (go_at_call 98; refine (inner_any _ _ _ _ _ _).mono ?_; rintro e w' ⟨rfl, rfl⟩) | (go_at_call 105; refine (check_any o ho8 g h _ a b c p m a' b' c' p' m' ByteArray.empty mi di pa pre r _ ?_ ?_ HO.out).mono ?_; (exact cf_new _ _ HG.out HH.out HN.out); (exact HV.out.below (by go_grown)); rintro e w' ⟨⟨er, rfl⟩, hb⟩))
  go_returns
  exact ⟨⟨_, rfl⟩, bt (by go_grown) hb⟩

end Go.Proofs.YtmlbjcdildaldaaDoor
