/- The semver package's >= and <, walked. -/
import Derived.Test.YtkohcmgckkenpaaDoorOpKit
set_option linter.unusedVariables false
set_option linter.unusedSimpArgs false
namespace Go.Proofs.YtkohcmgckkenpaaDoor
open Go.RowKit

def opLeast (bar : Bool) (n : Int) : Bool := if bar = true then false else decide (0 ≤ n)

set_option maxHeartbeats 1600000 in
set_option maxRecDepth 100000 in
theorem least_1 (g h k : Nat) (a b c : Int) (p m : ByteArray) (a' b' c' : Int) (p' m' op og : ByteArray) (mi di pa : Bool) (pre : Bool) (n : Int) (w : World) (hcf : CF w g h k a b c p m a' b' c' p' m' op og mi di pa) (hv : Vars w) (hc : CmpIs g h k a b c p m a' b' c' p' m' op og mi di pa n) (hbar : p.toList.isEmpty = false) (hpre : pre = false) :
    Calls Tryd.prog 46 #[.pointer (some ⟨g, 0, none⟩), .pointer (some ⟨k, 0, none⟩), .bool pre] w fun e w' => (∃ er, e = .returned (.tuple #[.bool false, er])) ∧ Below w.heap.size w w' := by
  subst hpre
  have MPr1 := hid (fun d os => Calls.gr_box (prerelease_any a b c p m (Go.Sort.grow (redrawn w d) os)))
  have MPr2 := hid (fun d os => Calls.gr_box (prerelease_any a' b' c' p' m' (Go.Sort.grow (redrawn w d) os)))
  have MCmp := hid (fun d os => Calls.gr (hc _ (hcf.below (below_regrown w d os)) (hv.below (below_regrown w d os))))
  obtain ⟨k0, k1, k2, k3, k4, k5, k6, k7, k8, k9, k10, k11, k12, k13, k14, k15, k16, k17⟩ := hcf.each
  clear hcf hv hc
  refine gr_start fun d os => ?_
  go_enter Tryd.func46, Tryd.ntmps46
  iterate 5 ((try (refine wp_region_gr (by kernel_rfl) (by kernel_rfl) ?_; (repeat (go_big_quiet_step ((first | (go_at_call_of 53 (Value.string m); exact MPr1.out _ _) | (go_at_call_of 53 (Value.string m'); exact MPr2.out _ _) | (go_at_call 60; exact MCmp.out _ _))))); refine wpQuiet_nil ?_; intro _ hw'; obtain ⟨⟨dq, osq⟩, hw''⟩ := hw'; subst hw'')); (try (go_wp2_with (first | ((first | (go_at_call_of 53 (Value.string m); refine (MPr1.out _ _).mono ?_) | (go_at_call_of 53 (Value.string m'); refine (MPr2.out _ _).mono ?_) | (go_at_call 60; refine (MCmp.out _ _).mono ?_)); rintro e w' ⟨rfl, ⟨⟨d1, os1⟩, rfl⟩⟩) | (go_at_call 54; refine (new_gr _ _ _ _).mono ?_; rintro e w' ⟨⟨tz, qz, rfl⟩, ⟨⟨d1, os1⟩, rfl⟩⟩)))))
  go_returns
  exact ⟨⟨_, rfl⟩, below_regrown w _ _⟩

set_option maxHeartbeats 1600000 in
set_option maxRecDepth 100000 in
theorem least_2 (g h k : Nat) (a b c : Int) (p m : ByteArray) (a' b' c' : Int) (p' m' op og : ByteArray) (mi di pa : Bool) (pre : Bool) (n : Int) (w : World) (hcf : CF w g h k a b c p m a' b' c' p' m' op og mi di pa) (hv : Vars w) (hc : CmpIs g h k a b c p m a' b' c' p' m' op og mi di pa n) (hn : 0 ≤ n) (hbar : p.toList.isEmpty = true ∨ (p.toList.isEmpty = false ∧ pre = true)) :
    Calls Tryd.prog 46 #[.pointer (some ⟨g, 0, none⟩), .pointer (some ⟨k, 0, none⟩), .bool pre] w fun e w' => (∃ er, e = .returned (.tuple #[.bool true, er])) ∧ Below w.heap.size w w' := by
  have MPr1 := hid (fun d os => Calls.gr_box (prerelease_any a b c p m (Go.Sort.grow (redrawn w d) os)))
  have MPr2 := hid (fun d os => Calls.gr_box (prerelease_any a' b' c' p' m' (Go.Sort.grow (redrawn w d) os)))
  have MCmp := hid (fun d os => Calls.gr (hc _ (hcf.below (below_regrown w d os)) (hv.below (below_regrown w d os))))
  obtain ⟨k0, k1, k2, k3, k4, k5, k6, k7, k8, k9, k10, k11, k12, k13, k14, k15, k16, k17⟩ := hcf.each
  clear hcf hv hc
  refine gr_start fun d os => ?_
  go_enter Tryd.func46, Tryd.ntmps46
  rcases hbar with hbar | ⟨hbar, hpre⟩
  rotate_left
  subst hpre
  all_goals
    iterate 5 ((try (refine wp_region_gr (by kernel_rfl) (by kernel_rfl) ?_; (repeat (go_big_quiet_step ((first | (go_at_call_of 53 (Value.string m); exact MPr1.out _ _) | (go_at_call_of 53 (Value.string m'); exact MPr2.out _ _) | (go_at_call 60; exact MCmp.out _ _))))); refine wpQuiet_nil ?_; intro _ hw'; obtain ⟨⟨dq, osq⟩, hw''⟩ := hw'; subst hw'')); (try (go_wp2_with (first | ((first | (go_at_call_of 53 (Value.string m); refine (MPr1.out _ _).mono ?_) | (go_at_call_of 53 (Value.string m'); refine (MPr2.out _ _).mono ?_) | (go_at_call 60; refine (MCmp.out _ _).mono ?_)); rintro e w' ⟨rfl, ⟨⟨d1, os1⟩, rfl⟩⟩) | (go_at_call 54; refine (new_gr _ _ _ _).mono ?_; rintro e w' ⟨⟨tz, qz, rfl⟩, ⟨⟨d1, os1⟩, rfl⟩⟩)))))
    go_returns
    exact ⟨⟨_, rfl⟩, below_regrown w _ _⟩

set_option maxHeartbeats 1600000 in
set_option maxRecDepth 100000 in
theorem least_3 (g h k : Nat) (a b c : Int) (p m : ByteArray) (a' b' c' : Int) (p' m' op og : ByteArray) (mi di pa : Bool) (pre : Bool) (n : Int) (w : World) (hcf : CF w g h k a b c p m a' b' c' p' m' op og mi di pa) (hv : Vars w) (hc : CmpIs g h k a b c p m a' b' c' p' m' op og mi di pa n) (hn : ¬ 0 ≤ n) (hbar : p.toList.isEmpty = true ∨ (p.toList.isEmpty = false ∧ pre = true)) :
    Calls Tryd.prog 46 #[.pointer (some ⟨g, 0, none⟩), .pointer (some ⟨k, 0, none⟩), .bool pre] w fun e w' => (∃ er, e = .returned (.tuple #[.bool false, er])) ∧ Below w.heap.size w w' := by
  have MPr1 := hid (fun d os => Calls.gr_box (prerelease_any a b c p m (Go.Sort.grow (redrawn w d) os)))
  have MPr2 := hid (fun d os => Calls.gr_box (prerelease_any a' b' c' p' m' (Go.Sort.grow (redrawn w d) os)))
  have MCmp := hid (fun d os => Calls.gr (hc _ (hcf.below (below_regrown w d os)) (hv.below (below_regrown w d os))))
  obtain ⟨k0, k1, k2, k3, k4, k5, k6, k7, k8, k9, k10, k11, k12, k13, k14, k15, k16, k17⟩ := hcf.each
  clear hcf hv hc
  refine gr_start fun d os => ?_
  go_enter Tryd.func46, Tryd.ntmps46
  rcases hbar with hbar | ⟨hbar, hpre⟩
  rotate_left
  subst hpre
  all_goals
    iterate 5 ((try (refine wp_region_gr (by kernel_rfl) (by kernel_rfl) ?_; (repeat (go_big_quiet_step ((first | (go_at_call_of 53 (Value.string m); exact MPr1.out _ _) | (go_at_call_of 53 (Value.string m'); exact MPr2.out _ _) | (go_at_call 60; exact MCmp.out _ _))))); refine wpQuiet_nil ?_; intro _ hw'; obtain ⟨⟨dq, osq⟩, hw''⟩ := hw'; subst hw'')); (try (go_wp2_with (first | ((first | (go_at_call_of 53 (Value.string m); refine (MPr1.out _ _).mono ?_) | (go_at_call_of 53 (Value.string m'); refine (MPr2.out _ _).mono ?_) | (go_at_call 60; refine (MCmp.out _ _).mono ?_)); rintro e w' ⟨rfl, ⟨⟨d1, os1⟩, rfl⟩⟩) | (go_at_call 54; refine (new_gr _ _ _ _).mono ?_; rintro e w' ⟨⟨tz, qz, rfl⟩, ⟨⟨d1, os1⟩, rfl⟩⟩)))))
    go_returns
    exact ⟨⟨_, rfl⟩, below_regrown w _ _⟩

def opBelow (bar : Bool) (n : Int) : Bool := if bar = true then false else decide (n < 0)

set_option maxHeartbeats 1600000 in
set_option maxRecDepth 100000 in
theorem below_1 (g h k : Nat) (a b c : Int) (p m : ByteArray) (a' b' c' : Int) (p' m' op og : ByteArray) (mi di pa : Bool) (pre : Bool) (n : Int) (w : World) (hcf : CF w g h k a b c p m a' b' c' p' m' op og mi di pa) (hv : Vars w) (hc : CmpIs g h k a b c p m a' b' c' p' m' op og mi di pa n) (hbar : p.toList.isEmpty = false) (hpre : pre = false) :
    Calls Tryd.prog 45 #[.pointer (some ⟨g, 0, none⟩), .pointer (some ⟨k, 0, none⟩), .bool pre] w fun e w' => (∃ er, e = .returned (.tuple #[.bool false, er])) ∧ Below w.heap.size w w' := by
  subst hpre
  have MPr1 := hid (fun d os => Calls.gr_box (prerelease_any a b c p m (Go.Sort.grow (redrawn w d) os)))
  have MPr2 := hid (fun d os => Calls.gr_box (prerelease_any a' b' c' p' m' (Go.Sort.grow (redrawn w d) os)))
  have MCmp := hid (fun d os => Calls.gr (hc _ (hcf.below (below_regrown w d os)) (hv.below (below_regrown w d os))))
  obtain ⟨k0, k1, k2, k3, k4, k5, k6, k7, k8, k9, k10, k11, k12, k13, k14, k15, k16, k17⟩ := hcf.each
  clear hcf hv hc
  refine gr_start fun d os => ?_
  go_enter Tryd.func45, Tryd.ntmps45
  iterate 5 ((try (refine wp_region_gr (by kernel_rfl) (by kernel_rfl) ?_; (repeat (go_big_quiet_step ((first | (go_at_call_of 53 (Value.string m); exact MPr1.out _ _) | (go_at_call_of 53 (Value.string m'); exact MPr2.out _ _) | (go_at_call 60; exact MCmp.out _ _))))); refine wpQuiet_nil ?_; intro _ hw'; obtain ⟨⟨dq, osq⟩, hw''⟩ := hw'; subst hw'')); (try (go_wp2_with (first | ((first | (go_at_call_of 53 (Value.string m); refine (MPr1.out _ _).mono ?_) | (go_at_call_of 53 (Value.string m'); refine (MPr2.out _ _).mono ?_) | (go_at_call 60; refine (MCmp.out _ _).mono ?_)); rintro e w' ⟨rfl, ⟨⟨d1, os1⟩, rfl⟩⟩) | (go_at_call 54; refine (new_gr _ _ _ _).mono ?_; rintro e w' ⟨⟨tz, qz, rfl⟩, ⟨⟨d1, os1⟩, rfl⟩⟩)))))
  go_returns
  exact ⟨⟨_, rfl⟩, below_regrown w _ _⟩

set_option maxHeartbeats 1600000 in
set_option maxRecDepth 100000 in
theorem below_2 (g h k : Nat) (a b c : Int) (p m : ByteArray) (a' b' c' : Int) (p' m' op og : ByteArray) (mi di pa : Bool) (pre : Bool) (n : Int) (w : World) (hcf : CF w g h k a b c p m a' b' c' p' m' op og mi di pa) (hv : Vars w) (hc : CmpIs g h k a b c p m a' b' c' p' m' op og mi di pa n) (hn : n < 0) (hbar : p.toList.isEmpty = true ∨ (p.toList.isEmpty = false ∧ pre = true)) :
    Calls Tryd.prog 45 #[.pointer (some ⟨g, 0, none⟩), .pointer (some ⟨k, 0, none⟩), .bool pre] w fun e w' => (∃ er, e = .returned (.tuple #[.bool true, er])) ∧ Below w.heap.size w w' := by
  have MPr1 := hid (fun d os => Calls.gr_box (prerelease_any a b c p m (Go.Sort.grow (redrawn w d) os)))
  have MPr2 := hid (fun d os => Calls.gr_box (prerelease_any a' b' c' p' m' (Go.Sort.grow (redrawn w d) os)))
  have MCmp := hid (fun d os => Calls.gr (hc _ (hcf.below (below_regrown w d os)) (hv.below (below_regrown w d os))))
  obtain ⟨k0, k1, k2, k3, k4, k5, k6, k7, k8, k9, k10, k11, k12, k13, k14, k15, k16, k17⟩ := hcf.each
  clear hcf hv hc
  refine gr_start fun d os => ?_
  go_enter Tryd.func45, Tryd.ntmps45
  rcases hbar with hbar | ⟨hbar, hpre⟩
  rotate_left
  subst hpre
  all_goals
    iterate 5 ((try (refine wp_region_gr (by kernel_rfl) (by kernel_rfl) ?_; (repeat (go_big_quiet_step ((first | (go_at_call_of 53 (Value.string m); exact MPr1.out _ _) | (go_at_call_of 53 (Value.string m'); exact MPr2.out _ _) | (go_at_call 60; exact MCmp.out _ _))))); refine wpQuiet_nil ?_; intro _ hw'; obtain ⟨⟨dq, osq⟩, hw''⟩ := hw'; subst hw'')); (try (go_wp2_with (first | ((first | (go_at_call_of 53 (Value.string m); refine (MPr1.out _ _).mono ?_) | (go_at_call_of 53 (Value.string m'); refine (MPr2.out _ _).mono ?_) | (go_at_call 60; refine (MCmp.out _ _).mono ?_)); rintro e w' ⟨rfl, ⟨⟨d1, os1⟩, rfl⟩⟩) | (go_at_call 54; refine (new_gr _ _ _ _).mono ?_; rintro e w' ⟨⟨tz, qz, rfl⟩, ⟨⟨d1, os1⟩, rfl⟩⟩)))))
    go_returns
    exact ⟨⟨_, rfl⟩, below_regrown w _ _⟩

set_option maxHeartbeats 1600000 in
set_option maxRecDepth 100000 in
theorem below_3 (g h k : Nat) (a b c : Int) (p m : ByteArray) (a' b' c' : Int) (p' m' op og : ByteArray) (mi di pa : Bool) (pre : Bool) (n : Int) (w : World) (hcf : CF w g h k a b c p m a' b' c' p' m' op og mi di pa) (hv : Vars w) (hc : CmpIs g h k a b c p m a' b' c' p' m' op og mi di pa n) (hn : ¬ n < 0) (hbar : p.toList.isEmpty = true ∨ (p.toList.isEmpty = false ∧ pre = true)) :
    Calls Tryd.prog 45 #[.pointer (some ⟨g, 0, none⟩), .pointer (some ⟨k, 0, none⟩), .bool pre] w fun e w' => (∃ er, e = .returned (.tuple #[.bool false, er])) ∧ Below w.heap.size w w' := by
  have MPr1 := hid (fun d os => Calls.gr_box (prerelease_any a b c p m (Go.Sort.grow (redrawn w d) os)))
  have MPr2 := hid (fun d os => Calls.gr_box (prerelease_any a' b' c' p' m' (Go.Sort.grow (redrawn w d) os)))
  have MCmp := hid (fun d os => Calls.gr (hc _ (hcf.below (below_regrown w d os)) (hv.below (below_regrown w d os))))
  obtain ⟨k0, k1, k2, k3, k4, k5, k6, k7, k8, k9, k10, k11, k12, k13, k14, k15, k16, k17⟩ := hcf.each
  clear hcf hv hc
  refine gr_start fun d os => ?_
  go_enter Tryd.func45, Tryd.ntmps45
  rcases hbar with hbar | ⟨hbar, hpre⟩
  rotate_left
  subst hpre
  all_goals
    iterate 5 ((try (refine wp_region_gr (by kernel_rfl) (by kernel_rfl) ?_; (repeat (go_big_quiet_step ((first | (go_at_call_of 53 (Value.string m); exact MPr1.out _ _) | (go_at_call_of 53 (Value.string m'); exact MPr2.out _ _) | (go_at_call 60; exact MCmp.out _ _))))); refine wpQuiet_nil ?_; intro _ hw'; obtain ⟨⟨dq, osq⟩, hw''⟩ := hw'; subst hw'')); (try (go_wp2_with (first | ((first | (go_at_call_of 53 (Value.string m); refine (MPr1.out _ _).mono ?_) | (go_at_call_of 53 (Value.string m'); refine (MPr2.out _ _).mono ?_) | (go_at_call 60; refine (MCmp.out _ _).mono ?_)); rintro e w' ⟨rfl, ⟨⟨d1, os1⟩, rfl⟩⟩) | (go_at_call 54; refine (new_gr _ _ _ _).mono ?_; rintro e w' ⟨⟨tz, qz, rfl⟩, ⟨⟨d1, os1⟩, rfl⟩⟩)))))
    go_returns
    exact ⟨⟨_, rfl⟩, below_regrown w _ _⟩

end Go.Proofs.YtkohcmgckkenpaaDoor
