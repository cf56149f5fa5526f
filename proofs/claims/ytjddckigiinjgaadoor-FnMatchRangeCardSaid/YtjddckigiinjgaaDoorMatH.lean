/- FamiliarMatch, RefMatch and matchName over a path alone. Walked. -/
import Derived.Test.YtjddckigiinjgaaDoorMatG
import Derived.BigQuiet
import Derived.Lib.QuietBelow
set_option linter.unusedVariables false
set_option linter.unusedSimpArgs false
namespace Go.Proofs.YtjddckigiinjgaaDoor
open Go.RowKit
open Go.Sort Go.Deep

theorem e_empty : (⟨#[]⟩ : ByteArray).toList.isEmpty = true := by rw [ByteArray.toList_eq]; rfl
theorem e_other : ((⟨#[]⟩ : ByteArray).toList == [100, 111, 99, 107, 101, 114, 46, 105, 111]) = false := by rw [ByteArray.toList_eq]; rfl
theorem mbt {X A C : World} (h1 : Below X.heap.size X A) (h2 : Below A.heap.size A C) : Below X.heap.size X C := h1.trans (h2.mono h1.size)
set_option maxHeartbeats 1600000 in
set_option maxRecDepth 100000 in
theorem famMatch_any (P d nm : ByteArray) (b : Bool) (w : World) (hp : nm.toList.isEmpty = false) (hd : d.toList.isEmpty = true) (hn : (d.toList == [100, 111, 99, 107, 101, 114, 46, 105, 111]) = false)
    (HM : ∀ X, Calls Tryd.prog 12 #[.string P, .string nm] X fun e w' => e = .returned (.tuple #[.bool b, .nilIface]) ∧ X = w') :
    Calls Tryd.prog 10 #[.string P, .iface 49 (.agg #[.string d, .string nm])] w fun e w' => e = .returned (.tuple #[.bool b, .nilIface]) ∧ Below w.heap.size w w' := by
  have C1 := hid (fun X => famString_any d nm X hp hd hn)
  have C2 := hid (fun X => famName_any d nm X hp hd hn)
  have CM := hid HM
  have ha := as_repo_named
  clear HM hp hd hn
  cases b
  all_goals
    go_enter Tryd.func10, Tryd.ntmps10
    go_wp2_with (first
      | (go_at_call 13; refine (C1.out _).mono ?_; rintro e w2 ⟨rfl, hb⟩; have B2 := hid hb; clear hb)
      | (go_at_call 12; refine (CM.out _).mono ?_; rintro e w' ⟨rfl, rfl⟩)
      | (go_at_call 14; refine (C2.out _).mono ?_; rintro e w3 ⟨rfl, hb⟩; have B3 := hid (mbt B2.out hb); clear hb))
    go_returns
    first | exact ⟨rfl, B3.out⟩ | exact ⟨rfl, B2.out⟩

set_option maxHeartbeats 1600000 in
set_option maxRecDepth 100000 in
theorem matchName_any (P nm : ByteArray) (b : Bool) (w : World) (hp : nm.toList.isEmpty = false)
    (HM : ∀ X, Calls Tryd.prog 12 #[.string P, .string nm] X fun e w' => e = .returned (.tuple #[.bool b, .nilIface]) ∧ X = w') :
    Calls Tryd.prog 6 #[.string P, .string nm] w fun e w' => e = .returned (.tuple #[.bool b, .bool true]) ∧ Below w.heap.size w w' := by
  have C1 := hid (fun X => ref_any ⟨#[]⟩ nm ⟨#[]⟩ ⟨#[]⟩ X hp e_empty e_empty e_empty)
  have C2 := hid (fun X => famMatch_any P ⟨#[]⟩ nm b X hp e_empty e_other HM)
  clear HM hp
  have CR : ∀ X, Calls Tryd.prog 8 #[.string P, .agg #[.string ⟨#[]⟩, .string nm, .string ⟨#[]⟩, .string ⟨#[]⟩]] X fun e w' => e = .returned (.tuple #[.bool b, .bool true]) ∧ Below X.heap.size X w' := fun X => by
    have B := hid (show Below X.heap.size X (X.alloc (.cells #[.string ⟨#[]⟩, .string nm, .string ⟨#[]⟩, .string ⟨#[]⟩] 32)) by go_grown)
    cases b
    all_goals
      go_enter Tryd.func8, Tryd.ntmps8
      go_wp2_with (first
        | (go_at_call 9; refine (C1.out _).mono ?_; rintro e w2 ⟨rfl, hb⟩; have B2 := hid (mbt B.out hb); clear hb)
        | (go_at_call 10; refine (C2.out _).mono ?_; rintro e w3 ⟨rfl, hb⟩; have B3 := hid (mbt B2.out hb); clear hb))
      refine wp_region_quiet_below (by kernel_rfl) (by kernel_rfl) ?_
      repeat (go_big_quiet_step (fail))
      refine wpQuiet_nil ?_
      intro _ hw'
      obtain ⟨⟨dq, osq⟩, hw''⟩ := hw'
      subst hw''
      have B4 := hid (mbt B3.out (below_regrown _ dq osq))
      generalize Go.Sort.grow (redrawn w3 dq) osq = w4 at B4 ⊢
      go_wp2_with fail
      go_returns
      exact ⟨rfl, B4.out⟩
  have CR := hid CR
  go_enter Tryd.func6, Tryd.ntmps6
  go_wp2_with (go_at_call 8; refine (CR.out _).mono ?_; rintro e w2 ⟨rfl, hb⟩; have B2 := hid hb; clear hb)
  go_returns
  exact ⟨rfl, B2.out⟩
end Go.Proofs.YtjddckigiinjgaaDoor
