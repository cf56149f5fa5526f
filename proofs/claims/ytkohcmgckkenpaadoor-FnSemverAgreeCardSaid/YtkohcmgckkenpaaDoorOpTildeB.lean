/- The semver package's tilde, walked: more ways. -/
import Derived.Test.YtkohcmgckkenpaaDoorOpKit
set_option linter.unusedVariables false
set_option linter.unusedSimpArgs false
namespace Go.Proofs.YtkohcmgckkenpaaDoor
open Go.RowKit

set_option maxHeartbeats 1600000 in
set_option maxRecDepth 100000 in
theorem tilde_101 (g h k : Nat) (a b c : Int) (p m : ByteArray) (a' b' c' : Int) (p' m' op og : ByteArray) (mi di pa : Bool) (pre : Bool) (n : Int) (w : World) (hcf : CF w g h k a b c p m a' b' c' p' m' op og mi di pa) (hv : Vars w) (hc : CmpIs g h k a b c p m a' b' c' p' m' op og mi di pa n) (hn : ¬ n < 0) (ha : a' = 0) (hb : b' = 0) (hc0 : c' ≠ 0) (hq : (a == a') = false) (hbar : p.toList.isEmpty = true ∨ (p.toList.isEmpty = false ∧ pre = true)) :
    Calls Tryd.prog 48 #[.pointer (some ⟨g, 0, none⟩), .pointer (some ⟨k, 0, none⟩), .bool pre] w fun e w' => (∃ er, e = .returned (.tuple #[.bool false, er])) ∧ Below w.heap.size w w' := by
  have ha_e : (a' == 0) = true := by simpa using ha
  clear ha
  have hb_e : (b' == 0) = true := by simpa using hb
  clear hb
  have hc0_e : (c' == 0) = false := by simpa using hc0
  clear hc0
  have hq_n : (a != a') = true := by simp only [bne, hq]; rfl
  have MMa1 := hid (fun d os => Calls.gr_box (major_any a b c p m (Go.Sort.grow (redrawn w d) os)))
  have MMa2 := hid (fun d os => Calls.gr_box (major_any a' b' c' p' m' (Go.Sort.grow (redrawn w d) os)))
  have MMi1 := hid (fun d os => Calls.gr_box (minor_any a b c p m (Go.Sort.grow (redrawn w d) os)))
  have MMi2 := hid (fun d os => Calls.gr_box (minor_any a' b' c' p' m' (Go.Sort.grow (redrawn w d) os)))
  have MPa1 := hid (fun d os => Calls.gr_box (patch_any a b c p m (Go.Sort.grow (redrawn w d) os)))
  have MPa2 := hid (fun d os => Calls.gr_box (patch_any a' b' c' p' m' (Go.Sort.grow (redrawn w d) os)))
  have MPr1 := hid (fun d os => Calls.gr_box (prerelease_any a b c p m (Go.Sort.grow (redrawn w d) os)))
  have MPr2 := hid (fun d os => Calls.gr_box (prerelease_any a' b' c' p' m' (Go.Sort.grow (redrawn w d) os)))
  have MLess := hid (fun d os => Calls.gr (vLess_inner n g h _ (hc _ (hcf.below (below_regrown w d os)) (hv.below (below_regrown w d os)))))
  obtain ⟨k0, k1, k2, k3, k4, k5, k6, k7, k8, k9, k10, k11, k12, k13, k14, k15, k16, k17⟩ := hcf.each
  clear hcf hv hc
  refine gr_start fun d os => ?_
  go_enter Tryd.func48, Tryd.ntmps48
  rcases hbar with hbar | ⟨hbar, hpre⟩
  rotate_left
  subst hpre
  all_goals
    iterate 5 ((try (refine wp_region_gr (by kernel_rfl) (by kernel_rfl) ?_; (repeat (go_big_quiet_step ((first | (go_at_call_of 56 (Value.string m); exact MMa1.out _ _) | (go_at_call_of 56 (Value.string m'); exact MMa2.out _ _) | (go_at_call_of 57 (Value.string m); exact MMi1.out _ _) | (go_at_call_of 57 (Value.string m'); exact MMi2.out _ _) | (go_at_call_of 58 (Value.string m); exact MPa1.out _ _) | (go_at_call_of 58 (Value.string m'); exact MPa2.out _ _) | (go_at_call_of 53 (Value.string m); exact MPr1.out _ _) | (go_at_call_of 53 (Value.string m'); exact MPr2.out _ _) | (go_at_call 61; exact MLess.out _ _))))); refine wpQuiet_nil ?_; intro _ hw'; obtain ⟨⟨dq, osq⟩, hw''⟩ := hw'; subst hw'')); (try (go_wp2_with (first | ((first | (go_at_call_of 56 (Value.string m); refine (MMa1.out _ _).mono ?_) | (go_at_call_of 56 (Value.string m'); refine (MMa2.out _ _).mono ?_) | (go_at_call_of 57 (Value.string m); refine (MMi1.out _ _).mono ?_) | (go_at_call_of 57 (Value.string m'); refine (MMi2.out _ _).mono ?_) | (go_at_call_of 58 (Value.string m); refine (MPa1.out _ _).mono ?_) | (go_at_call_of 58 (Value.string m'); refine (MPa2.out _ _).mono ?_) | (go_at_call_of 53 (Value.string m); refine (MPr1.out _ _).mono ?_) | (go_at_call_of 53 (Value.string m'); refine (MPr2.out _ _).mono ?_) | (go_at_call 61; refine (MLess.out _ _).mono ?_)); rintro e w' ⟨rfl, ⟨⟨d1, os1⟩, rfl⟩⟩) | (go_at_call 54; refine (new_gr _ _ _ _).mono ?_; rintro e w' ⟨⟨tz, qz, rfl⟩, ⟨⟨d1, os1⟩, rfl⟩⟩)))))
    go_returns
    exact ⟨⟨_, rfl⟩, below_regrown w _ _⟩

set_option maxHeartbeats 1600000 in
set_option maxRecDepth 100000 in
theorem tilde_102 (g h k : Nat) (a b c : Int) (p m : ByteArray) (a' b' c' : Int) (p' m' op og : ByteArray) (mi di pa : Bool) (pre : Bool) (n : Int) (w : World) (hcf : CF w g h k a b c p m a' b' c' p' m' op og mi di pa) (hv : Vars w) (hc : CmpIs g h k a b c p m a' b' c' p' m' op og mi di pa n) (hn : ¬ n < 0) (ha : a' = 0) (hb : b' = 0) (hc0 : c' ≠ 0) (hq : (a == a') = true) (hq2 : (b == b') = true) (hbar : p.toList.isEmpty = true ∨ (p.toList.isEmpty = false ∧ pre = true)) :
    Calls Tryd.prog 48 #[.pointer (some ⟨g, 0, none⟩), .pointer (some ⟨k, 0, none⟩), .bool pre] w fun e w' => (∃ er, e = .returned (.tuple #[.bool true, er])) ∧ Below w.heap.size w w' := by
  have ha_e : (a' == 0) = true := by simpa using ha
  clear ha
  have hb_e : (b' == 0) = true := by simpa using hb
  clear hb
  have hc0_e : (c' == 0) = false := by simpa using hc0
  clear hc0
  have hq_n : (a != a') = false := by simp only [bne, hq]; rfl
  have hq2_n : (b != b') = false := by simp only [bne, hq2]; rfl
  have MMa1 := hid (fun d os => Calls.gr_box (major_any a b c p m (Go.Sort.grow (redrawn w d) os)))
  have MMa2 := hid (fun d os => Calls.gr_box (major_any a' b' c' p' m' (Go.Sort.grow (redrawn w d) os)))
  have MMi1 := hid (fun d os => Calls.gr_box (minor_any a b c p m (Go.Sort.grow (redrawn w d) os)))
  have MMi2 := hid (fun d os => Calls.gr_box (minor_any a' b' c' p' m' (Go.Sort.grow (redrawn w d) os)))
  have MPa1 := hid (fun d os => Calls.gr_box (patch_any a b c p m (Go.Sort.grow (redrawn w d) os)))
  have MPa2 := hid (fun d os => Calls.gr_box (patch_any a' b' c' p' m' (Go.Sort.grow (redrawn w d) os)))
  have MPr1 := hid (fun d os => Calls.gr_box (prerelease_any a b c p m (Go.Sort.grow (redrawn w d) os)))
  have MPr2 := hid (fun d os => Calls.gr_box (prerelease_any a' b' c' p' m' (Go.Sort.grow (redrawn w d) os)))
  have MLess := hid (fun d os => Calls.gr (vLess_inner n g h _ (hc _ (hcf.below (below_regrown w d os)) (hv.below (below_regrown w d os)))))
  obtain ⟨k0, k1, k2, k3, k4, k5, k6, k7, k8, k9, k10, k11, k12, k13, k14, k15, k16, k17⟩ := hcf.each
  clear hcf hv hc
  refine gr_start fun d os => ?_
  go_enter Tryd.func48, Tryd.ntmps48
  rcases hbar with hbar | ⟨hbar, hpre⟩
  rotate_left
  subst hpre
  all_goals
    iterate 5 ((try (refine wp_region_gr (by kernel_rfl) (by kernel_rfl) ?_; (repeat (go_big_quiet_step ((first | (go_at_call_of 56 (Value.string m); exact MMa1.out _ _) | (go_at_call_of 56 (Value.string m'); exact MMa2.out _ _) | (go_at_call_of 57 (Value.string m); exact MMi1.out _ _) | (go_at_call_of 57 (Value.string m'); exact MMi2.out _ _) | (go_at_call_of 58 (Value.string m); exact MPa1.out _ _) | (go_at_call_of 58 (Value.string m'); exact MPa2.out _ _) | (go_at_call_of 53 (Value.string m); exact MPr1.out _ _) | (go_at_call_of 53 (Value.string m'); exact MPr2.out _ _) | (go_at_call 61; exact MLess.out _ _))))); refine wpQuiet_nil ?_; intro _ hw'; obtain ⟨⟨dq, osq⟩, hw''⟩ := hw'; subst hw'')); (try (go_wp2_with (first | ((first | (go_at_call_of 56 (Value.string m); refine (MMa1.out _ _).mono ?_) | (go_at_call_of 56 (Value.string m'); refine (MMa2.out _ _).mono ?_) | (go_at_call_of 57 (Value.string m); refine (MMi1.out _ _).mono ?_) | (go_at_call_of 57 (Value.string m'); refine (MMi2.out _ _).mono ?_) | (go_at_call_of 58 (Value.string m); refine (MPa1.out _ _).mono ?_) | (go_at_call_of 58 (Value.string m'); refine (MPa2.out _ _).mono ?_) | (go_at_call_of 53 (Value.string m); refine (MPr1.out _ _).mono ?_) | (go_at_call_of 53 (Value.string m'); refine (MPr2.out _ _).mono ?_) | (go_at_call 61; refine (MLess.out _ _).mono ?_)); rintro e w' ⟨rfl, ⟨⟨d1, os1⟩, rfl⟩⟩) | (go_at_call 54; refine (new_gr _ _ _ _).mono ?_; rintro e w' ⟨⟨tz, qz, rfl⟩, ⟨⟨d1, os1⟩, rfl⟩⟩)))))
    go_returns
    exact ⟨⟨_, rfl⟩, below_regrown w _ _⟩

set_option maxHeartbeats 1600000 in
set_option maxRecDepth 100000 in
theorem tilde_103 (g h k : Nat) (a b c : Int) (p m : ByteArray) (a' b' c' : Int) (p' m' op og : ByteArray) (mi di pa : Bool) (pre : Bool) (n : Int) (w : World) (hcf : CF w g h k a b c p m a' b' c' p' m' op og mi di pa) (hv : Vars w) (hc : CmpIs g h k a b c p m a' b' c' p' m' op og mi di pa n) (hn : ¬ n < 0) (ha : a' = 0) (hb : b' = 0) (hc0 : c' ≠ 0) (hq : (a == a') = true) (hq2 : (b == b') = false) (hmi : mi = false) (hbar : p.toList.isEmpty = true ∨ (p.toList.isEmpty = false ∧ pre = true)) :
    Calls Tryd.prog 48 #[.pointer (some ⟨g, 0, none⟩), .pointer (some ⟨k, 0, none⟩), .bool pre] w fun e w' => (∃ er, e = .returned (.tuple #[.bool false, er])) ∧ Below w.heap.size w w' := by
  have ha_e : (a' == 0) = true := by simpa using ha
  clear ha
  have hb_e : (b' == 0) = true := by simpa using hb
  clear hb
  have hc0_e : (c' == 0) = false := by simpa using hc0
  clear hc0
  have hq_n : (a != a') = false := by simp only [bne, hq]; rfl
  have hq2_n : (b != b') = true := by simp only [bne, hq2]; rfl
  subst hmi
  have MMa1 := hid (fun d os => Calls.gr_box (major_any a b c p m (Go.Sort.grow (redrawn w d) os)))
  have MMa2 := hid (fun d os => Calls.gr_box (major_any a' b' c' p' m' (Go.Sort.grow (redrawn w d) os)))
  have MMi1 := hid (fun d os => Calls.gr_box (minor_any a b c p m (Go.Sort.grow (redrawn w d) os)))
  have MMi2 := hid (fun d os => Calls.gr_box (minor_any a' b' c' p' m' (Go.Sort.grow (redrawn w d) os)))
  have MPa1 := hid (fun d os => Calls.gr_box (patch_any a b c p m (Go.Sort.grow (redrawn w d) os)))
  have MPa2 := hid (fun d os => Calls.gr_box (patch_any a' b' c' p' m' (Go.Sort.grow (redrawn w d) os)))
  have MPr1 := hid (fun d os => Calls.gr_box (prerelease_any a b c p m (Go.Sort.grow (redrawn w d) os)))
  have MPr2 := hid (fun d os => Calls.gr_box (prerelease_any a' b' c' p' m' (Go.Sort.grow (redrawn w d) os)))
  have MLess := hid (fun d os => Calls.gr (vLess_inner n g h _ (hc _ (hcf.below (below_regrown w d os)) (hv.below (below_regrown w d os)))))
  obtain ⟨k0, k1, k2, k3, k4, k5, k6, k7, k8, k9, k10, k11, k12, k13, k14, k15, k16, k17⟩ := hcf.each
  clear hcf hv hc
  refine gr_start fun d os => ?_
  go_enter Tryd.func48, Tryd.ntmps48
  rcases hbar with hbar | ⟨hbar, hpre⟩
  rotate_left
  subst hpre
  all_goals
    iterate 5 ((try (refine wp_region_gr (by kernel_rfl) (by kernel_rfl) ?_; (repeat (go_big_quiet_step ((first | (go_at_call_of 56 (Value.string m); exact MMa1.out _ _) | (go_at_call_of 56 (Value.string m'); exact MMa2.out _ _) | (go_at_call_of 57 (Value.string m); exact MMi1.out _ _) | (go_at_call_of 57 (Value.string m'); exact MMi2.out _ _) | (go_at_call_of 58 (Value.string m); exact MPa1.out _ _) | (go_at_call_of 58 (Value.string m'); exact MPa2.out _ _) | (go_at_call_of 53 (Value.string m); exact MPr1.out _ _) | (go_at_call_of 53 (Value.string m'); exact MPr2.out _ _) | (go_at_call 61; exact MLess.out _ _))))); refine wpQuiet_nil ?_; intro _ hw'; obtain ⟨⟨dq, osq⟩, hw''⟩ := hw'; subst hw'')); (try (go_wp2_with (first | ((first | (go_at_call_of 56 (Value.string m); refine (MMa1.out _ _).mono ?_) | (go_at_call_of 56 (Value.string m'); refine (MMa2.out _ _).mono ?_) | (go_at_call_of 57 (Value.string m); refine (MMi1.out _ _).mono ?_) | (go_at_call_of 57 (Value.string m'); refine (MMi2.out _ _).mono ?_) | (go_at_call_of 58 (Value.string m); refine (MPa1.out _ _).mono ?_) | (go_at_call_of 58 (Value.string m'); refine (MPa2.out _ _).mono ?_) | (go_at_call_of 53 (Value.string m); refine (MPr1.out _ _).mono ?_) | (go_at_call_of 53 (Value.string m'); refine (MPr2.out _ _).mono ?_) | (go_at_call 61; refine (MLess.out _ _).mono ?_)); rintro e w' ⟨rfl, ⟨⟨d1, os1⟩, rfl⟩⟩) | (go_at_call 54; refine (new_gr _ _ _ _).mono ?_; rintro e w' ⟨⟨tz, qz, rfl⟩, ⟨⟨d1, os1⟩, rfl⟩⟩)))))
    go_returns
    exact ⟨⟨_, rfl⟩, below_regrown w _ _⟩

set_option maxHeartbeats 1600000 in
set_option maxRecDepth 100000 in
theorem tilde_104 (g h k : Nat) (a b c : Int) (p m : ByteArray) (a' b' c' : Int) (p' m' op og : ByteArray) (mi di pa : Bool) (pre : Bool) (n : Int) (w : World) (hcf : CF w g h k a b c p m a' b' c' p' m' op og mi di pa) (hv : Vars w) (hc : CmpIs g h k a b c p m a' b' c' p' m' op og mi di pa n) (hn : ¬ n < 0) (ha : a' = 0) (hb : b' = 0) (hc0 : c' ≠ 0) (hq : (a == a') = true) (hq2 : (b == b') = false) (hmi : mi = true) (hbar : p.toList.isEmpty = true ∨ (p.toList.isEmpty = false ∧ pre = true)) :
    Calls Tryd.prog 48 #[.pointer (some ⟨g, 0, none⟩), .pointer (some ⟨k, 0, none⟩), .bool pre] w fun e w' => (∃ er, e = .returned (.tuple #[.bool true, er])) ∧ Below w.heap.size w w' := by
  have ha_e : (a' == 0) = true := by simpa using ha
  clear ha
  have hb_e : (b' == 0) = true := by simpa using hb
  clear hb
  have hc0_e : (c' == 0) = false := by simpa using hc0
  clear hc0
  have hq_n : (a != a') = false := by simp only [bne, hq]; rfl
  have hq2_n : (b != b') = true := by simp only [bne, hq2]; rfl
  subst hmi
  have MMa1 := hid (fun d os => Calls.gr_box (major_any a b c p m (Go.Sort.grow (redrawn w d) os)))
  have MMa2 := hid (fun d os => Calls.gr_box (major_any a' b' c' p' m' (Go.Sort.grow (redrawn w d) os)))
  have MMi1 := hid (fun d os => Calls.gr_box (minor_any a b c p m (Go.Sort.grow (redrawn w d) os)))
  have MMi2 := hid (fun d os => Calls.gr_box (minor_any a' b' c' p' m' (Go.Sort.grow (redrawn w d) os)))
  have MPa1 := hid (fun d os => Calls.gr_box (patch_any a b c p m (Go.Sort.grow (redrawn w d) os)))
  have MPa2 := hid (fun d os => Calls.gr_box (patch_any a' b' c' p' m' (Go.Sort.grow (redrawn w d) os)))
  have MPr1 := hid (fun d os => Calls.gr_box (prerelease_any a b c p m (Go.Sort.grow (redrawn w d) os)))
  have MPr2 := hid (fun d os => Calls.gr_box (prerelease_any a' b' c' p' m' (Go.Sort.grow (redrawn w d) os)))
  have MLess := hid (fun d os => Calls.gr (vLess_inner n g h _ (hc _ (hcf.below (below_regrown w d os)) (hv.below (below_regrown w d os)))))
  obtain ⟨k0, k1, k2, k3, k4, k5, k6, k7, k8, k9, k10, k11, k12, k13, k14, k15, k16, k17⟩ := hcf.each
  clear hcf hv hc
  refine gr_start fun d os => ?_
  go_enter Tryd.func48, Tryd.ntmps48
  rcases hbar with hbar | ⟨hbar, hpre⟩
  rotate_left
  subst hpre
  all_goals
    iterate 5 ((try (refine wp_region_gr (by kernel_rfl) (by kernel_rfl) ?_; (repeat (go_big_quiet_step ((first | (go_at_call_of 56 (Value.string m); exact MMa1.out _ _) | (go_at_call_of 56 (Value.string m'); exact MMa2.out _ _) | (go_at_call_of 57 (Value.string m); exact MMi1.out _ _) | (go_at_call_of 57 (Value.string m'); exact MMi2.out _ _) | (go_at_call_of 58 (Value.string m); exact MPa1.out _ _) | (go_at_call_of 58 (Value.string m'); exact MPa2.out _ _) | (go_at_call_of 53 (Value.string m); exact MPr1.out _ _) | (go_at_call_of 53 (Value.string m'); exact MPr2.out _ _) | (go_at_call 61; exact MLess.out _ _))))); refine wpQuiet_nil ?_; intro _ hw'; obtain ⟨⟨dq, osq⟩, hw''⟩ := hw'; subst hw'')); (try (go_wp2_with (first | ((first | (go_at_call_of 56 (Value.string m); refine (MMa1.out _ _).mono ?_) | (go_at_call_of 56 (Value.string m'); refine (MMa2.out _ _).mono ?_) | (go_at_call_of 57 (Value.string m); refine (MMi1.out _ _).mono ?_) | (go_at_call_of 57 (Value.string m'); refine (MMi2.out _ _).mono ?_) | (go_at_call_of 58 (Value.string m); refine (MPa1.out _ _).mono ?_) | (go_at_call_of 58 (Value.string m'); refine (MPa2.out _ _).mono ?_) | (go_at_call_of 53 (Value.string m); refine (MPr1.out _ _).mono ?_) | (go_at_call_of 53 (Value.string m'); refine (MPr2.out _ _).mono ?_) | (go_at_call 61; refine (MLess.out _ _).mono ?_)); rintro e w' ⟨rfl, ⟨⟨d1, os1⟩, rfl⟩⟩) | (go_at_call 54; refine (new_gr _ _ _ _).mono ?_; rintro e w' ⟨⟨tz, qz, rfl⟩, ⟨⟨d1, os1⟩, rfl⟩⟩)))))
    go_returns
    exact ⟨⟨_, rfl⟩, below_regrown w _ _⟩

set_option maxHeartbeats 1600000 in
set_option maxRecDepth 100000 in
theorem tilde_105 (g h k : Nat) (a b c : Int) (p m : ByteArray) (a' b' c' : Int) (p' m' op og : ByteArray) (mi di pa : Bool) (pre : Bool) (n : Int) (w : World) (hcf : CF w g h k a b c p m a' b' c' p' m' op og mi di pa) (hv : Vars w) (hc : CmpIs g h k a b c p m a' b' c' p' m' op og mi di pa n) (hn : ¬ n < 0) (ha : a' = 0) (hb : b' = 0) (hc0 : c' = 0) (hmi : mi = true) (hq : (a == a') = false) (hbar : p.toList.isEmpty = true ∨ (p.toList.isEmpty = false ∧ pre = true)) :
    Calls Tryd.prog 48 #[.pointer (some ⟨g, 0, none⟩), .pointer (some ⟨k, 0, none⟩), .bool pre] w fun e w' => (∃ er, e = .returned (.tuple #[.bool false, er])) ∧ Below w.heap.size w w' := by
  have ha_e : (a' == 0) = true := by simpa using ha
  clear ha
  have hb_e : (b' == 0) = true := by simpa using hb
  clear hb
  have hc0_e : (c' == 0) = true := by simpa using hc0
  clear hc0
  subst hmi
  have hq_n : (a != a') = true := by simp only [bne, hq]; rfl
  have MMa1 := hid (fun d os => Calls.gr_box (major_any a b c p m (Go.Sort.grow (redrawn w d) os)))
  have MMa2 := hid (fun d os => Calls.gr_box (major_any a' b' c' p' m' (Go.Sort.grow (redrawn w d) os)))
  have MMi1 := hid (fun d os => Calls.gr_box (minor_any a b c p m (Go.Sort.grow (redrawn w d) os)))
  have MMi2 := hid (fun d os => Calls.gr_box (minor_any a' b' c' p' m' (Go.Sort.grow (redrawn w d) os)))
  have MPa1 := hid (fun d os => Calls.gr_box (patch_any a b c p m (Go.Sort.grow (redrawn w d) os)))
  have MPa2 := hid (fun d os => Calls.gr_box (patch_any a' b' c' p' m' (Go.Sort.grow (redrawn w d) os)))
  have MPr1 := hid (fun d os => Calls.gr_box (prerelease_any a b c p m (Go.Sort.grow (redrawn w d) os)))
  have MPr2 := hid (fun d os => Calls.gr_box (prerelease_any a' b' c' p' m' (Go.Sort.grow (redrawn w d) os)))
  have MLess := hid (fun d os => Calls.gr (vLess_inner n g h _ (hc _ (hcf.below (below_regrown w d os)) (hv.below (below_regrown w d os)))))
  obtain ⟨k0, k1, k2, k3, k4, k5, k6, k7, k8, k9, k10, k11, k12, k13, k14, k15, k16, k17⟩ := hcf.each
  clear hcf hv hc
  refine gr_start fun d os => ?_
  go_enter Tryd.func48, Tryd.ntmps48
  rcases hbar with hbar | ⟨hbar, hpre⟩
  rotate_left
  subst hpre
  all_goals
    iterate 5 ((try (refine wp_region_gr (by kernel_rfl) (by kernel_rfl) ?_; (repeat (go_big_quiet_step ((first | (go_at_call_of 56 (Value.string m); exact MMa1.out _ _) | (go_at_call_of 56 (Value.string m'); exact MMa2.out _ _) | (go_at_call_of 57 (Value.string m); exact MMi1.out _ _) | (go_at_call_of 57 (Value.string m'); exact MMi2.out _ _) | (go_at_call_of 58 (Value.string m); exact MPa1.out _ _) | (go_at_call_of 58 (Value.string m'); exact MPa2.out _ _) | (go_at_call_of 53 (Value.string m); exact MPr1.out _ _) | (go_at_call_of 53 (Value.string m'); exact MPr2.out _ _) | (go_at_call 61; exact MLess.out _ _))))); refine wpQuiet_nil ?_; intro _ hw'; obtain ⟨⟨dq, osq⟩, hw''⟩ := hw'; subst hw'')); (try (go_wp2_with (first | ((first | (go_at_call_of 56 (Value.string m); refine (MMa1.out _ _).mono ?_) | (go_at_call_of 56 (Value.string m'); refine (MMa2.out _ _).mono ?_) | (go_at_call_of 57 (Value.string m); refine (MMi1.out _ _).mono ?_) | (go_at_call_of 57 (Value.string m'); refine (MMi2.out _ _).mono ?_) | (go_at_call_of 58 (Value.string m); refine (MPa1.out _ _).mono ?_) | (go_at_call_of 58 (Value.string m'); refine (MPa2.out _ _).mono ?_) | (go_at_call_of 53 (Value.string m); refine (MPr1.out _ _).mono ?_) | (go_at_call_of 53 (Value.string m'); refine (MPr2.out _ _).mono ?_) | (go_at_call 61; refine (MLess.out _ _).mono ?_)); rintro e w' ⟨rfl, ⟨⟨d1, os1⟩, rfl⟩⟩) | (go_at_call 54; refine (new_gr _ _ _ _).mono ?_; rintro e w' ⟨⟨tz, qz, rfl⟩, ⟨⟨d1, os1⟩, rfl⟩⟩)))))
    go_returns
    exact ⟨⟨_, rfl⟩, below_regrown w _ _⟩

set_option maxHeartbeats 1600000 in
set_option maxRecDepth 100000 in
theorem tilde_106 (g h k : Nat) (a b c : Int) (p m : ByteArray) (a' b' c' : Int) (p' m' op og : ByteArray) (mi di pa : Bool) (pre : Bool) (n : Int) (w : World) (hcf : CF w g h k a b c p m a' b' c' p' m' op og mi di pa) (hv : Vars w) (hc : CmpIs g h k a b c p m a' b' c' p' m' op og mi di pa n) (hn : ¬ n < 0) (ha : a' = 0) (hb : b' = 0) (hc0 : c' = 0) (hmi : mi = true) (hq : (a == a') = true) (hq2 : (b == b') = true) (hbar : p.toList.isEmpty = true ∨ (p.toList.isEmpty = false ∧ pre = true)) :
    Calls Tryd.prog 48 #[.pointer (some ⟨g, 0, none⟩), .pointer (some ⟨k, 0, none⟩), .bool pre] w fun e w' => (∃ er, e = .returned (.tuple #[.bool true, er])) ∧ Below w.heap.size w w' := by
  have ha_e : (a' == 0) = true := by simpa using ha
  clear ha
  have hb_e : (b' == 0) = true := by simpa using hb
  clear hb
  have hc0_e : (c' == 0) = true := by simpa using hc0
  clear hc0
  subst hmi
  have hq_n : (a != a') = false := by simp only [bne, hq]; rfl
  have hq2_n : (b != b') = false := by simp only [bne, hq2]; rfl
  have MMa1 := hid (fun d os => Calls.gr_box (major_any a b c p m (Go.Sort.grow (redrawn w d) os)))
  have MMa2 := hid (fun d os => Calls.gr_box (major_any a' b' c' p' m' (Go.Sort.grow (redrawn w d) os)))
  have MMi1 := hid (fun d os => Calls.gr_box (minor_any a b c p m (Go.Sort.grow (redrawn w d) os)))
  have MMi2 := hid (fun d os => Calls.gr_box (minor_any a' b' c' p' m' (Go.Sort.grow (redrawn w d) os)))
  have MPa1 := hid (fun d os => Calls.gr_box (patch_any a b c p m (Go.Sort.grow (redrawn w d) os)))
  have MPa2 := hid (fun d os => Calls.gr_box (patch_any a' b' c' p' m' (Go.Sort.grow (redrawn w d) os)))
  have MPr1 := hid (fun d os => Calls.gr_box (prerelease_any a b c p m (Go.Sort.grow (redrawn w d) os)))
  have MPr2 := hid (fun d os => Calls.gr_box (prerelease_any a' b' c' p' m' (Go.Sort.grow (redrawn w d) os)))
  have MLess := hid (fun d os => Calls.gr (vLess_inner n g h _ (hc _ (hcf.below (below_regrown w d os)) (hv.below (below_regrown w d os)))))
  obtain ⟨k0, k1, k2, k3, k4, k5, k6, k7, k8, k9, k10, k11, k12, k13, k14, k15, k16, k17⟩ := hcf.each
  clear hcf hv hc
  refine gr_start fun d os => ?_
  go_enter Tryd.func48, Tryd.ntmps48
  rcases hbar with hbar | ⟨hbar, hpre⟩
  rotate_left
  subst hpre
  all_goals
    iterate 5 ((try (refine wp_region_gr (by kernel_rfl) (by kernel_rfl) ?_; (repeat (go_big_quiet_step ((first | (go_at_call_of 56 (Value.string m); exact MMa1.out _ _) | (go_at_call_of 56 (Value.string m'); exact MMa2.out _ _) | (go_at_call_of 57 (Value.string m); exact MMi1.out _ _) | (go_at_call_of 57 (Value.string m'); exact MMi2.out _ _) | (go_at_call_of 58 (Value.string m); exact MPa1.out _ _) | (go_at_call_of 58 (Value.string m'); exact MPa2.out _ _) | (go_at_call_of 53 (Value.string m); exact MPr1.out _ _) | (go_at_call_of 53 (Value.string m'); exact MPr2.out _ _) | (go_at_call 61; exact MLess.out _ _))))); refine wpQuiet_nil ?_; intro _ hw'; obtain ⟨⟨dq, osq⟩, hw''⟩ := hw'; subst hw'')); (try (go_wp2_with (first | ((first | (go_at_call_of 56 (Value.string m); refine (MMa1.out _ _).mono ?_) | (go_at_call_of 56 (Value.string m'); refine (MMa2.out _ _).mono ?_) | (go_at_call_of 57 (Value.string m); refine (MMi1.out _ _).mono ?_) | (go_at_call_of 57 (Value.string m'); refine (MMi2.out _ _).mono ?_) | (go_at_call_of 58 (Value.string m); refine (MPa1.out _ _).mono ?_) | (go_at_call_of 58 (Value.string m'); refine (MPa2.out _ _).mono ?_) | (go_at_call_of 53 (Value.string m); refine (MPr1.out _ _).mono ?_) | (go_at_call_of 53 (Value.string m'); refine (MPr2.out _ _).mono ?_) | (go_at_call 61; refine (MLess.out _ _).mono ?_)); rintro e w' ⟨rfl, ⟨⟨d1, os1⟩, rfl⟩⟩) | (go_at_call 54; refine (new_gr _ _ _ _).mono ?_; rintro e w' ⟨⟨tz, qz, rfl⟩, ⟨⟨d1, os1⟩, rfl⟩⟩)))))
    go_returns
    exact ⟨⟨_, rfl⟩, below_regrown w _ _⟩

set_option maxHeartbeats 1600000 in
set_option maxRecDepth 100000 in
theorem tilde_107 (g h k : Nat) (a b c : Int) (p m : ByteArray) (a' b' c' : Int) (p' m' op og : ByteArray) (mi di pa : Bool) (pre : Bool) (n : Int) (w : World) (hcf : CF w g h k a b c p m a' b' c' p' m' op og mi di pa) (hv : Vars w) (hc : CmpIs g h k a b c p m a' b' c' p' m' op og mi di pa n) (hn : ¬ n < 0) (ha : a' = 0) (hb : b' = 0) (hc0 : c' = 0) (hmi : mi = true) (hq : (a == a') = true) (hq2 : (b == b') = false) (hbar : p.toList.isEmpty = true ∨ (p.toList.isEmpty = false ∧ pre = true)) :
    Calls Tryd.prog 48 #[.pointer (some ⟨g, 0, none⟩), .pointer (some ⟨k, 0, none⟩), .bool pre] w fun e w' => (∃ er, e = .returned (.tuple #[.bool true, er])) ∧ Below w.heap.size w w' := by
  have ha_e : (a' == 0) = true := by simpa using ha
  clear ha
  have hb_e : (b' == 0) = true := by simpa using hb
  clear hb
  have hc0_e : (c' == 0) = true := by simpa using hc0
  clear hc0
  subst hmi
  have hq_n : (a != a') = false := by simp only [bne, hq]; rfl
  have hq2_n : (b != b') = true := by simp only [bne, hq2]; rfl
  have MMa1 := hid (fun d os => Calls.gr_box (major_any a b c p m (Go.Sort.grow (redrawn w d) os)))
  have MMa2 := hid (fun d os => Calls.gr_box (major_any a' b' c' p' m' (Go.Sort.grow (redrawn w d) os)))
  have MMi1 := hid (fun d os => Calls.gr_box (minor_any a b c p m (Go.Sort.grow (redrawn w d) os)))
  have MMi2 := hid (fun d os => Calls.gr_box (minor_any a' b' c' p' m' (Go.Sort.grow (redrawn w d) os)))
  have MPa1 := hid (fun d os => Calls.gr_box (patch_any a b c p m (Go.Sort.grow (redrawn w d) os)))
  have MPa2 := hid (fun d os => Calls.gr_box (patch_any a' b' c' p' m' (Go.Sort.grow (redrawn w d) os)))
  have MPr1 := hid (fun d os => Calls.gr_box (prerelease_any a b c p m (Go.Sort.grow (redrawn w d) os)))
  have MPr2 := hid (fun d os => Calls.gr_box (prerelease_any a' b' c' p' m' (Go.Sort.grow (redrawn w d) os)))
  have MLess := hid (fun d os => Calls.gr (vLess_inner n g h _ (hc _ (hcf.below (below_regrown w d os)) (hv.below (below_regrown w d os)))))
  obtain ⟨k0, k1, k2, k3, k4, k5, k6, k7, k8, k9, k10, k11, k12, k13, k14, k15, k16, k17⟩ := hcf.each
  clear hcf hv hc
  refine gr_start fun d os => ?_
  go_enter Tryd.func48, Tryd.ntmps48
  rcases hbar with hbar | ⟨hbar, hpre⟩
  rotate_left
  subst hpre
  all_goals
    iterate 5 ((try (refine wp_region_gr (by kernel_rfl) (by kernel_rfl) ?_; (repeat (go_big_quiet_step ((first | (go_at_call_of 56 (Value.string m); exact MMa1.out _ _) | (go_at_call_of 56 (Value.string m'); exact MMa2.out _ _) | (go_at_call_of 57 (Value.string m); exact MMi1.out _ _) | (go_at_call_of 57 (Value.string m'); exact MMi2.out _ _) | (go_at_call_of 58 (Value.string m); exact MPa1.out _ _) | (go_at_call_of 58 (Value.string m'); exact MPa2.out _ _) | (go_at_call_of 53 (Value.string m); exact MPr1.out _ _) | (go_at_call_of 53 (Value.string m'); exact MPr2.out _ _) | (go_at_call 61; exact MLess.out _ _))))); refine wpQuiet_nil ?_; intro _ hw'; obtain ⟨⟨dq, osq⟩, hw''⟩ := hw'; subst hw'')); (try (go_wp2_with (first | ((first | (go_at_call_of 56 (Value.string m); refine (MMa1.out _ _).mono ?_) | (go_at_call_of 56 (Value.string m'); refine (MMa2.out _ _).mono ?_) | (go_at_call_of 57 (Value.string m); refine (MMi1.out _ _).mono ?_) | (go_at_call_of 57 (Value.string m'); refine (MMi2.out _ _).mono ?_) | (go_at_call_of 58 (Value.string m); refine (MPa1.out _ _).mono ?_) | (go_at_call_of 58 (Value.string m'); refine (MPa2.out _ _).mono ?_) | (go_at_call_of 53 (Value.string m); refine (MPr1.out _ _).mono ?_) | (go_at_call_of 53 (Value.string m'); refine (MPr2.out _ _).mono ?_) | (go_at_call 61; refine (MLess.out _ _).mono ?_)); rintro e w' ⟨rfl, ⟨⟨d1, os1⟩, rfl⟩⟩) | (go_at_call 54; refine (new_gr _ _ _ _).mono ?_; rintro e w' ⟨⟨tz, qz, rfl⟩, ⟨⟨d1, os1⟩, rfl⟩⟩)))))
    go_returns
    exact ⟨⟨_, rfl⟩, below_regrown w _ _⟩

set_option maxHeartbeats 1600000 in
set_option maxRecDepth 100000 in
theorem tilde_108 (g h k : Nat) (a b c : Int) (p m : ByteArray) (a' b' c' : Int) (p' m' op og : ByteArray) (mi di pa : Bool) (pre : Bool) (n : Int) (w : World) (hcf : CF w g h k a b c p m a' b' c' p' m' op og mi di pa) (hv : Vars w) (hc : CmpIs g h k a b c p m a' b' c' p' m' op og mi di pa n) (hn : ¬ n < 0) (ha : a' = 0) (hb : b' = 0) (hc0 : c' = 0) (hmi : mi = false) (hpa : pa = true) (hq : (a == a') = false) (hbar : p.toList.isEmpty = true ∨ (p.toList.isEmpty = false ∧ pre = true)) :
    Calls Tryd.prog 48 #[.pointer (some ⟨g, 0, none⟩), .pointer (some ⟨k, 0, none⟩), .bool pre] w fun e w' => (∃ er, e = .returned (.tuple #[.bool false, er])) ∧ Below w.heap.size w w' := by
  have ha_e : (a' == 0) = true := by simpa using ha
  clear ha
  have hb_e : (b' == 0) = true := by simpa using hb
  clear hb
  have hc0_e : (c' == 0) = true := by simpa using hc0
  clear hc0
  subst hmi
  subst hpa
  have hq_n : (a != a') = true := by simp only [bne, hq]; rfl
  have MMa1 := hid (fun d os => Calls.gr_box (major_any a b c p m (Go.Sort.grow (redrawn w d) os)))
  have MMa2 := hid (fun d os => Calls.gr_box (major_any a' b' c' p' m' (Go.Sort.grow (redrawn w d) os)))
  have MMi1 := hid (fun d os => Calls.gr_box (minor_any a b c p m (Go.Sort.grow (redrawn w d) os)))
  have MMi2 := hid (fun d os => Calls.gr_box (minor_any a' b' c' p' m' (Go.Sort.grow (redrawn w d) os)))
  have MPa1 := hid (fun d os => Calls.gr_box (patch_any a b c p m (Go.Sort.grow (redrawn w d) os)))
  have MPa2 := hid (fun d os => Calls.gr_box (patch_any a' b' c' p' m' (Go.Sort.grow (redrawn w d) os)))
  have MPr1 := hid (fun d os => Calls.gr_box (prerelease_any a b c p m (Go.Sort.grow (redrawn w d) os)))
  have MPr2 := hid (fun d os => Calls.gr_box (prerelease_any a' b' c' p' m' (Go.Sort.grow (redrawn w d) os)))
  have MLess := hid (fun d os => Calls.gr (vLess_inner n g h _ (hc _ (hcf.below (below_regrown w d os)) (hv.below (below_regrown w d os)))))
  obtain ⟨k0, k1, k2, k3, k4, k5, k6, k7, k8, k9, k10, k11, k12, k13, k14, k15, k16, k17⟩ := hcf.each
  clear hcf hv hc
  refine gr_start fun d os => ?_
  go_enter Tryd.func48, Tryd.ntmps48
  rcases hbar with hbar | ⟨hbar, hpre⟩
  rotate_left
  subst hpre
  all_goals
    iterate 5 ((try (refine wp_region_gr (by kernel_rfl) (by kernel_rfl) ?_; (repeat (go_big_quiet_step ((first | (go_at_call_of 56 (Value.string m); exact MMa1.out _ _) | (go_at_call_of 56 (Value.string m'); exact MMa2.out _ _) | (go_at_call_of 57 (Value.string m); exact MMi1.out _ _) | (go_at_call_of 57 (Value.string m'); exact MMi2.out _ _) | (go_at_call_of 58 (Value.string m); exact MPa1.out _ _) | (go_at_call_of 58 (Value.string m'); exact MPa2.out _ _) | (go_at_call_of 53 (Value.string m); exact MPr1.out _ _) | (go_at_call_of 53 (Value.string m'); exact MPr2.out _ _) | (go_at_call 61; exact MLess.out _ _))))); refine wpQuiet_nil ?_; intro _ hw'; obtain ⟨⟨dq, osq⟩, hw''⟩ := hw'; subst hw'')); (try (go_wp2_with (first | ((first | (go_at_call_of 56 (Value.string m); refine (MMa1.out _ _).mono ?_) | (go_at_call_of 56 (Value.string m'); refine (MMa2.out _ _).mono ?_) | (go_at_call_of 57 (Value.string m); refine (MMi1.out _ _).mono ?_) | (go_at_call_of 57 (Value.string m'); refine (MMi2.out _ _).mono ?_) | (go_at_call_of 58 (Value.string m); refine (MPa1.out _ _).mono ?_) | (go_at_call_of 58 (Value.string m'); refine (MPa2.out _ _).mono ?_) | (go_at_call_of 53 (Value.string m); refine (MPr1.out _ _).mono ?_) | (go_at_call_of 53 (Value.string m'); refine (MPr2.out _ _).mono ?_) | (go_at_call 61; refine (MLess.out _ _).mono ?_)); rintro e w' ⟨rfl, ⟨⟨d1, os1⟩, rfl⟩⟩) | (go_at_call 54; refine (new_gr _ _ _ _).mono ?_; rintro e w' ⟨⟨tz, qz, rfl⟩, ⟨⟨d1, os1⟩, rfl⟩⟩)))))
    go_returns
    exact ⟨⟨_, rfl⟩, below_regrown w _ _⟩

set_option maxHeartbeats 1600000 in
set_option maxRecDepth 100000 in
theorem tilde_109 (g h k : Nat) (a b c : Int) (p m : ByteArray) (a' b' c' : Int) (p' m' op og : ByteArray) (mi di pa : Bool) (pre : Bool) (n : Int) (w : World) (hcf : CF w g h k a b c p m a' b' c' p' m' op og mi di pa) (hv : Vars w) (hc : CmpIs g h k a b c p m a' b' c' p' m' op og mi di pa n) (hn : ¬ n < 0) (ha : a' = 0) (hb : b' = 0) (hc0 : c' = 0) (hmi : mi = false) (hpa : pa = true) (hq : (a == a') = true) (hq2 : (b == b') = true) (hbar : p.toList.isEmpty = true ∨ (p.toList.isEmpty = false ∧ pre = true)) :
    Calls Tryd.prog 48 #[.pointer (some ⟨g, 0, none⟩), .pointer (some ⟨k, 0, none⟩), .bool pre] w fun e w' => (∃ er, e = .returned (.tuple #[.bool true, er])) ∧ Below w.heap.size w w' := by
  have ha_e : (a' == 0) = true := by simpa using ha
  clear ha
  have hb_e : (b' == 0) = true := by simpa using hb
  clear hb
  have hc0_e : (c' == 0) = true := by simpa using hc0
  clear hc0
  subst hmi
  subst hpa
  have hq_n : (a != a') = false := by simp only [bne, hq]; rfl
  have hq2_n : (b != b') = false := by simp only [bne, hq2]; rfl
  have MMa1 := hid (fun d os => Calls.gr_box (major_any a b c p m (Go.Sort.grow (redrawn w d) os)))
  have MMa2 := hid (fun d os => Calls.gr_box (major_any a' b' c' p' m' (Go.Sort.grow (redrawn w d) os)))
  have MMi1 := hid (fun d os => Calls.gr_box (minor_any a b c p m (Go.Sort.grow (redrawn w d) os)))
  have MMi2 := hid (fun d os => Calls.gr_box (minor_any a' b' c' p' m' (Go.Sort.grow (redrawn w d) os)))
  have MPa1 := hid (fun d os => Calls.gr_box (patch_any a b c p m (Go.Sort.grow (redrawn w d) os)))
  have MPa2 := hid (fun d os => Calls.gr_box (patch_any a' b' c' p' m' (Go.Sort.grow (redrawn w d) os)))
  have MPr1 := hid (fun d os => Calls.gr_box (prerelease_any a b c p m (Go.Sort.grow (redrawn w d) os)))
  have MPr2 := hid (fun d os => Calls.gr_box (prerelease_any a' b' c' p' m' (Go.Sort.grow (redrawn w d) os)))
  have MLess := hid (fun d os => Calls.gr (vLess_inner n g h _ (hc _ (hcf.below (below_regrown w d os)) (hv.below (below_regrown w d os)))))
  obtain ⟨k0, k1, k2, k3, k4, k5, k6, k7, k8, k9, k10, k11, k12, k13, k14, k15, k16, k17⟩ := hcf.each
  clear hcf hv hc
  refine gr_start fun d os => ?_
  go_enter Tryd.func48, Tryd.ntmps48
  rcases hbar with hbar | ⟨hbar, hpre⟩
  rotate_left
  subst hpre
  all_goals
    iterate 5 ((try (refine wp_region_gr (by kernel_rfl) (by kernel_rfl) ?_; (repeat (go_big_quiet_step ((first | (go_at_call_of 56 (Value.string m); exact MMa1.out _ _) | (go_at_call_of 56 (Value.string m'); exact MMa2.out _ _) | (go_at_call_of 57 (Value.string m); exact MMi1.out _ _) | (go_at_call_of 57 (Value.string m'); exact MMi2.out _ _) | (go_at_call_of 58 (Value.string m); exact MPa1.out _ _) | (go_at_call_of 58 (Value.string m'); exact MPa2.out _ _) | (go_at_call_of 53 (Value.string m); exact MPr1.out _ _) | (go_at_call_of 53 (Value.string m'); exact MPr2.out _ _) | (go_at_call 61; exact MLess.out _ _))))); refine wpQuiet_nil ?_; intro _ hw'; obtain ⟨⟨dq, osq⟩, hw''⟩ := hw'; subst hw'')); (try (go_wp2_with (first | ((first | (go_at_call_of 56 (Value.string m); refine (MMa1.out _ _).mono ?_) | (go_at_call_of 56 (Value.string m'); refine (MMa2.out _ _).mono ?_) | (go_at_call_of 57 (Value.string m); refine (MMi1.out _ _).mono ?_) | (go_at_call_of 57 (Value.string m'); refine (MMi2.out _ _).mono ?_) | (go_at_call_of 58 (Value.string m); refine (MPa1.out _ _).mono ?_) | (go_at_call_of 58 (Value.string m'); refine (MPa2.out _ _).mono ?_) | (go_at_call_of 53 (Value.string m); refine (MPr1.out _ _).mono ?_) | (go_at_call_of 53 (Value.string m'); refine (MPr2.out _ _).mono ?_) | (go_at_call 61; refine (MLess.out _ _).mono ?_)); rintro e w' ⟨rfl, ⟨⟨d1, os1⟩, rfl⟩⟩) | (go_at_call 54; refine (new_gr _ _ _ _).mono ?_; rintro e w' ⟨⟨tz, qz, rfl⟩, ⟨⟨d1, os1⟩, rfl⟩⟩)))))
    go_returns
    exact ⟨⟨_, rfl⟩, below_regrown w _ _⟩

set_option maxHeartbeats 1600000 in
set_option maxRecDepth 100000 in
theorem tilde_110 (g h k : Nat) (a b c : Int) (p m : ByteArray) (a' b' c' : Int) (p' m' op og : ByteArray) (mi di pa : Bool) (pre : Bool) (n : Int) (w : World) (hcf : CF w g h k a b c p m a' b' c' p' m' op og mi di pa) (hv : Vars w) (hc : CmpIs g h k a b c p m a' b' c' p' m' op og mi di pa n) (hn : ¬ n < 0) (ha : a' = 0) (hb : b' = 0) (hc0 : c' = 0) (hmi : mi = false) (hpa : pa = true) (hq : (a == a') = true) (hq2 : (b == b') = false) (hbar : p.toList.isEmpty = true ∨ (p.toList.isEmpty = false ∧ pre = true)) :
    Calls Tryd.prog 48 #[.pointer (some ⟨g, 0, none⟩), .pointer (some ⟨k, 0, none⟩), .bool pre] w fun e w' => (∃ er, e = .returned (.tuple #[.bool false, er])) ∧ Below w.heap.size w w' := by
  have ha_e : (a' == 0) = true := by simpa using ha
  clear ha
  have hb_e : (b' == 0) = true := by simpa using hb
  clear hb
  have hc0_e : (c' == 0) = true := by simpa using hc0
  clear hc0
  subst hmi
  subst hpa
  have hq_n : (a != a') = false := by simp only [bne, hq]; rfl
  have hq2_n : (b != b') = true := by simp only [bne, hq2]; rfl
  have MMa1 := hid (fun d os => Calls.gr_box (major_any a b c p m (Go.Sort.grow (redrawn w d) os)))
  have MMa2 := hid (fun d os => Calls.gr_box (major_any a' b' c' p' m' (Go.Sort.grow (redrawn w d) os)))
  have MMi1 := hid (fun d os => Calls.gr_box (minor_any a b c p m (Go.Sort.grow (redrawn w d) os)))
  have MMi2 := hid (fun d os => Calls.gr_box (minor_any a' b' c' p' m' (Go.Sort.grow (redrawn w d) os)))
  have MPa1 := hid (fun d os => Calls.gr_box (patch_any a b c p m (Go.Sort.grow (redrawn w d) os)))
  have MPa2 := hid (fun d os => Calls.gr_box (patch_any a' b' c' p' m' (Go.Sort.grow (redrawn w d) os)))
  have MPr1 := hid (fun d os => Calls.gr_box (prerelease_any a b c p m (Go.Sort.grow (redrawn w d) os)))
  have MPr2 := hid (fun d os => Calls.gr_box (prerelease_any a' b' c' p' m' (Go.Sort.grow (redrawn w d) os)))
  have MLess := hid (fun d os => Calls.gr (vLess_inner n g h _ (hc _ (hcf.below (below_regrown w d os)) (hv.below (below_regrown w d os)))))
  obtain ⟨k0, k1, k2, k3, k4, k5, k6, k7, k8, k9, k10, k11, k12, k13, k14, k15, k16, k17⟩ := hcf.each
  clear hcf hv hc
  refine gr_start fun d os => ?_
  go_enter Tryd.func48, Tryd.ntmps48
  rcases hbar with hbar | ⟨hbar, hpre⟩
  rotate_left
  subst hpre
  all_goals
    iterate 5 ((try (refine wp_region_gr (by kernel_rfl) (by kernel_rfl) ?_; (repeat (go_big_quiet_step ((first | (go_at_call_of 56 (Value.string m); exact MMa1.out _ _) | (go_at_call_of 56 (Value.string m'); exact MMa2.out _ _) | (go_at_call_of 57 (Value.string m); exact MMi1.out _ _) | (go_at_call_of 57 (Value.string m'); exact MMi2.out _ _) | (go_at_call_of 58 (Value.string m); exact MPa1.out _ _) | (go_at_call_of 58 (Value.string m'); exact MPa2.out _ _) | (go_at_call_of 53 (Value.string m); exact MPr1.out _ _) | (go_at_call_of 53 (Value.string m'); exact MPr2.out _ _) | (go_at_call 61; exact MLess.out _ _))))); refine wpQuiet_nil ?_; intro _ hw'; obtain ⟨⟨dq, osq⟩, hw''⟩ := hw'; subst hw'')); (try (go_wp2_with (first | ((first | (go_at_call_of 56 (Value.string m); refine (MMa1.out _ _).mono ?_) | (go_at_call_of 56 (Value.string m'); refine (MMa2.out _ _).mono ?_) | (go_at_call_of 57 (Value.string m); refine (MMi1.out _ _).mono ?_) | (go_at_call_of 57 (Value.string m'); refine (MMi2.out _ _).mono ?_) | (go_at_call_of 58 (Value.string m); refine (MPa1.out _ _).mono ?_) | (go_at_call_of 58 (Value.string m'); refine (MPa2.out _ _).mono ?_) | (go_at_call_of 53 (Value.string m); refine (MPr1.out _ _).mono ?_) | (go_at_call_of 53 (Value.string m'); refine (MPr2.out _ _).mono ?_) | (go_at_call 61; refine (MLess.out _ _).mono ?_)); rintro e w' ⟨rfl, ⟨⟨d1, os1⟩, rfl⟩⟩) | (go_at_call 54; refine (new_gr _ _ _ _).mono ?_; rintro e w' ⟨⟨tz, qz, rfl⟩, ⟨⟨d1, os1⟩, rfl⟩⟩)))))
    go_returns
    exact ⟨⟨_, rfl⟩, below_regrown w _ _⟩

end Go.Proofs.YtkohcmgckkenpaaDoor
