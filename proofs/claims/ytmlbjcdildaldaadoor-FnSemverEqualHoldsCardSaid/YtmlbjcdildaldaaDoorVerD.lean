/- The doors to the comparison of versions, walked. -/
import Derived.Test.YtmlbjcdildaldaaDoorVerB
import Derived.Test.YtmlbjcdildaldaaDoorVerC
import Derived.Test.YtmlbjcdildaldaaDoorSvGood
set_option linter.unusedVariables false
set_option linter.unusedSimpArgs false
namespace Go.Proofs.YtmlbjcdildaldaaDoor
open Go.RowKit

theorem keep10 {a b c : Int} {p m : ByteArray} {a' b' c' : Int} {p' m' : ByteArray} {t : TypeId} {w w' : World} (hb : Below ((w.alloc (.cells (scells a b c p m) t)).alloc (.cells (scells a' b' c' p' m') t)).heap.size ((w.alloc (.cells (scells a b c p m) t)).alloc (.cells (scells a' b' c' p' m') t)) w') : w'.cell? ⟨w.heap.size, 0, none⟩ = some (.int .u64 a) ∧ w'.cell? ⟨w.heap.size, 1, none⟩ = some (.int .u64 b) ∧ w'.cell? ⟨w.heap.size, 2, none⟩ = some (.int .u64 c) ∧ w'.cell? ⟨w.heap.size, 3, none⟩ = some (.string p) ∧ w'.cell? ⟨w.heap.size, 4, none⟩ = some (.string m) ∧ w'.cell? ⟨w.heap.size + 1, 0, none⟩ = some (.int .u64 a') ∧ w'.cell? ⟨w.heap.size + 1, 1, none⟩ = some (.int .u64 b') ∧ w'.cell? ⟨w.heap.size + 1, 2, none⟩ = some (.int .u64 c') ∧ w'.cell? ⟨w.heap.size + 1, 3, none⟩ = some (.string p') ∧ w'.cell? ⟨w.heap.size + 1, 4, none⟩ = some (.string m') := by
  have h1 : Blk ((w.alloc (.cells (scells a b c p m) t)).alloc (.cells (scells a' b' c' p' m') t)) w.heap.size t (scells a b c p m) := (Blk.new w t (scells a b c p m)).alloc _
  have h2 : Blk ((w.alloc (.cells (scells a b c p m) t)).alloc (.cells (scells a' b' c' p' m') t)) (w.heap.size + 1) t (scells a' b' c' p' m') := by
    have := Blk.new (w.alloc (.cells (scells a b c p m) t)) t (scells a' b' c' p' m')
    rwa [World.size_alloc] at this
  have k1 := h1.below hb
  have k2 := h2.below hb
  exact ⟨k1.cell 0, k1.cell 1, k1.cell 2, k1.cell 3, k1.cell 4, k2.cell 0, k2.cell 1, k2.cell 2, k2.cell 3, k2.cell 4⟩

/-- The world behind the making of the two. -/
abbrev vw (a b c : Int) (p m : ByteArray) (a' b' c' : Int) (p' m' : ByteArray) (w : World) : World :=
  (((((w.alloc (.cells (scells a b c p m) 27)).alloc (.cells (scells a' b' c' p' m') 27)).alloc (.cells (scells a b c p m) 27)).alloc (.cells (vcells a b c p m) 95)).alloc (.cells (scells a' b' c' p' m') 27)).alloc (.cells (vcells a' b' c' p' m') 95)
theorem v6_one (a b c : Int) (p m : ByteArray) (a' b' c' : Int) (p' m' : ByteArray) (w : World) : V6 (vw a b c p m a' b' c' p' m' w) (w.heap.size + 1 + 1 + 1) a b c p m := by
  have h := V6.new (((w.alloc (.cells (scells a b c p m) 27)).alloc (.cells (scells a' b' c' p' m') 27)).alloc (.cells (scells a b c p m) 27)) 95 a b c p m
  simp only [World.size_alloc] at h
  exact h.below (by go_grown)
theorem v6_two (a b c : Int) (p m : ByteArray) (a' b' c' : Int) (p' m' : ByteArray) (w : World) : V6 (vw a b c p m a' b' c' p' m' w) (w.heap.size + 1 + 1 + 1 + 1 + 1) a' b' c' p' m' := by
  have h := V6.new (((((w.alloc (.cells (scells a b c p m) 27)).alloc (.cells (scells a' b' c' p' m') 27)).alloc (.cells (scells a b c p m) 27)).alloc (.cells (vcells a b c p m) 95)).alloc (.cells (scells a' b' c' p' m') 27)) 95 a' b' c' p' m'
  simp only [World.size_alloc] at h
  exact h
theorem vw_below (a b c : Int) (p m : ByteArray) (a' b' c' : Int) (p' m' : ByteArray) (w : World) : Below w.heap.size w (vw a b c p m a' b' c' p' m' w) := by
  unfold vw
  go_grown

set_option maxRecDepth 100000 in
theorem vCompare_any (n : Int) (a b c : Int) (p m : ByteArray) (a' b' c' : Int) (p' m' : ByteArray) (w : World) (hv : Vars w)
    (hc : ∀ (g h : Nat) (W : World), V6 W g a b c p m → V6 W h a' b' c' p' m' → Vars W → Calls Tryd.prog 60 #[.pointer (some ⟨g, 0, none⟩), .pointer (some ⟨h, 0, none⟩)] W fun e w' => e = .returned (.int .i64 n) ∧ Below W.heap.size W w') :
    Calls Tryd.prog 20 #[.agg (scells a b c p m), .agg (scells a' b' c' p' m')] w fun e w' => e = .returned (.int .i64 n) ∧ Below w.heap.size w w' := by
  have HC := hid hc
  have HV := hid hv
  clear hc hv
  go_enter Tryd.func20, Tryd.ntmps20
  go_wp2_with fail
  go_region_held3 (fun w' => w'.cell? ⟨w.heap.size, 0, none⟩ = some (.int .u64 a) ∧ w'.cell? ⟨w.heap.size, 1, none⟩ = some (.int .u64 b) ∧ w'.cell? ⟨w.heap.size, 2, none⟩ = some (.int .u64 c) ∧ w'.cell? ⟨w.heap.size, 3, none⟩ = some (.string p) ∧ w'.cell? ⟨w.heap.size, 4, none⟩ = some (.string m) ∧ w'.cell? ⟨w.heap.size + 1, 0, none⟩ = some (.int .u64 a') ∧ w'.cell? ⟨w.heap.size + 1, 1, none⟩ = some (.int .u64 b') ∧ w'.cell? ⟨w.heap.size + 1, 2, none⟩ = some (.int .u64 c') ∧ w'.cell? ⟨w.heap.size + 1, 3, none⟩ = some (.string p') ∧ w'.cell? ⟨w.heap.size + 1, 4, none⟩ = some (.string m')) (first | (refine keep10 (t := 27) ?_; go_grown; done) | (refine keep10 (t := 27) (bt ?_ hb); go_grown; done))
    (first
      | (go_at_call_of 59 (Value.agg #[.int .u64 a, .int .u64 b, .int .u64 c, .string p, .string m]); refine (version_any a b c p m _).mono ?_; rintro e w' ⟨rfl, rfl⟩)
      | (go_at_call_of 59 (Value.agg #[.int .u64 a', .int .u64 b', .int .u64 c', .string p', .string m']); refine (version_any a' b' c' p' m' _).mono ?_; rintro e w' ⟨rfl, rfl⟩)
      | (go_at_call 60; refine (HC.out _ _ _ ?_ ?_ ?_).mono ?_; (exact v6_one a b c p m a' b' c' p' m' w); (exact v6_two a b c p m a' b' c' p' m' w); (exact HV.out.below (vw_below a b c p m a' b' c' p' m' w).drew); rintro e w1 ⟨rfl, hb⟩))
  all_goals (go_wp2_with fail; go_ret; refine ⟨rfl, bt ?_ hb⟩; go_grown)

theorem vLess_inner (n : Int) (g h : Nat) (w : World)
    (hc : Calls Tryd.prog 60 #[.pointer (some ⟨g, 0, none⟩), .pointer (some ⟨h, 0, none⟩)] w fun e w' => e = .returned (.int .i64 n) ∧ Below w.heap.size w w') :
    Calls Tryd.prog 63 #[.pointer (some ⟨g, 0, none⟩), .pointer (some ⟨h, 0, none⟩)] w fun e w' => e = .returned (.bool (decide (n < 0))) ∧ Below w.heap.size w w' := by
  have HC := hid hc
  clear hc
  go_enter Tryd.func63, Tryd.ntmps63
  go_wp2_with (go_at_call 60; refine HC.out.mono ?_; rintro e w' ⟨rfl, hb⟩)
  go_ret
  exact ⟨ret_b (by simp), hb⟩

set_option maxRecDepth 100000 in
theorem vLess_any (n : Int) (a b c : Int) (p m : ByteArray) (a' b' c' : Int) (p' m' : ByteArray) (w : World) (hv : Vars w)
    (hc : ∀ (g h : Nat) (W : World), V6 W g a b c p m → V6 W h a' b' c' p' m' → Vars W → Calls Tryd.prog 60 #[.pointer (some ⟨g, 0, none⟩), .pointer (some ⟨h, 0, none⟩)] W fun e w' => e = .returned (.int .i64 n) ∧ Below W.heap.size W w') :
    Calls Tryd.prog 22 #[.agg (scells a b c p m), .agg (scells a' b' c' p' m')] w fun e w' => e = .returned (.bool (decide (n < 0))) ∧ Below w.heap.size w w' := by
  have HC := hid hc
  have HV := hid hv
  clear hc hv
  go_enter Tryd.func22, Tryd.ntmps22
  go_wp2_with fail
  go_region_held3 (fun w' => w'.cell? ⟨w.heap.size, 0, none⟩ = some (.int .u64 a) ∧ w'.cell? ⟨w.heap.size, 1, none⟩ = some (.int .u64 b) ∧ w'.cell? ⟨w.heap.size, 2, none⟩ = some (.int .u64 c) ∧ w'.cell? ⟨w.heap.size, 3, none⟩ = some (.string p) ∧ w'.cell? ⟨w.heap.size, 4, none⟩ = some (.string m) ∧ w'.cell? ⟨w.heap.size + 1, 0, none⟩ = some (.int .u64 a') ∧ w'.cell? ⟨w.heap.size + 1, 1, none⟩ = some (.int .u64 b') ∧ w'.cell? ⟨w.heap.size + 1, 2, none⟩ = some (.int .u64 c') ∧ w'.cell? ⟨w.heap.size + 1, 3, none⟩ = some (.string p') ∧ w'.cell? ⟨w.heap.size + 1, 4, none⟩ = some (.string m')) (first | (refine keep10 (t := 27) ?_; go_grown; done) | (refine keep10 (t := 27) (bt ?_ hb); go_grown; done))
    (first
      | (go_at_call_of 59 (Value.agg #[.int .u64 a, .int .u64 b, .int .u64 c, .string p, .string m]); refine (version_any a b c p m _).mono ?_; rintro e w' ⟨rfl, rfl⟩)
      | (go_at_call_of 59 (Value.agg #[.int .u64 a', .int .u64 b', .int .u64 c', .string p', .string m']); refine (version_any a' b' c' p' m' _).mono ?_; rintro e w' ⟨rfl, rfl⟩)
      | (go_at_call 63; refine (vLess_inner n _ _ _ (HC.out _ _ _ ?_ ?_ ?_)).mono ?_; (exact v6_one a b c p m a' b' c' p' m' w); (exact v6_two a b c p m a' b' c' p' m' w); (exact HV.out.below (vw_below a b c p m a' b' c' p' m' w).drew); rintro e w1 ⟨rfl, hb⟩))
  all_goals (go_wp2_with fail; go_ret; refine ⟨rfl, bt ?_ hb⟩; go_grown)

theorem vGreater_inner (n : Int) (g h : Nat) (w : World)
    (hc : Calls Tryd.prog 60 #[.pointer (some ⟨g, 0, none⟩), .pointer (some ⟨h, 0, none⟩)] w fun e w' => e = .returned (.int .i64 n) ∧ Below w.heap.size w w') :
    Calls Tryd.prog 64 #[.pointer (some ⟨g, 0, none⟩), .pointer (some ⟨h, 0, none⟩)] w fun e w' => e = .returned (.bool (decide (0 < n))) ∧ Below w.heap.size w w' := by
  have HC := hid hc
  clear hc
  go_enter Tryd.func64, Tryd.ntmps64
  go_wp2_with (go_at_call 60; refine HC.out.mono ?_; rintro e w' ⟨rfl, hb⟩)
  go_ret
  exact ⟨ret_b (by simp), hb⟩

set_option maxRecDepth 100000 in
theorem vGreater_any (n : Int) (a b c : Int) (p m : ByteArray) (a' b' c' : Int) (p' m' : ByteArray) (w : World) (hv : Vars w)
    (hc : ∀ (g h : Nat) (W : World), V6 W g a b c p m → V6 W h a' b' c' p' m' → Vars W → Calls Tryd.prog 60 #[.pointer (some ⟨g, 0, none⟩), .pointer (some ⟨h, 0, none⟩)] W fun e w' => e = .returned (.int .i64 n) ∧ Below W.heap.size W w') :
    Calls Tryd.prog 23 #[.agg (scells a b c p m), .agg (scells a' b' c' p' m')] w fun e w' => e = .returned (.bool (decide (0 < n))) ∧ Below w.heap.size w w' := by
  have HC := hid hc
  have HV := hid hv
  clear hc hv
  go_enter Tryd.func23, Tryd.ntmps23
  go_wp2_with fail
  go_region_held3 (fun w' => w'.cell? ⟨w.heap.size, 0, none⟩ = some (.int .u64 a) ∧ w'.cell? ⟨w.heap.size, 1, none⟩ = some (.int .u64 b) ∧ w'.cell? ⟨w.heap.size, 2, none⟩ = some (.int .u64 c) ∧ w'.cell? ⟨w.heap.size, 3, none⟩ = some (.string p) ∧ w'.cell? ⟨w.heap.size, 4, none⟩ = some (.string m) ∧ w'.cell? ⟨w.heap.size + 1, 0, none⟩ = some (.int .u64 a') ∧ w'.cell? ⟨w.heap.size + 1, 1, none⟩ = some (.int .u64 b') ∧ w'.cell? ⟨w.heap.size + 1, 2, none⟩ = some (.int .u64 c') ∧ w'.cell? ⟨w.heap.size + 1, 3, none⟩ = some (.string p') ∧ w'.cell? ⟨w.heap.size + 1, 4, none⟩ = some (.string m')) (first | (refine keep10 (t := 27) ?_; go_grown; done) | (refine keep10 (t := 27) (bt ?_ hb); go_grown; done))
    (first
      | (go_at_call_of 59 (Value.agg #[.int .u64 a, .int .u64 b, .int .u64 c, .string p, .string m]); refine (version_any a b c p m _).mono ?_; rintro e w' ⟨rfl, rfl⟩)
      | (go_at_call_of 59 (Value.agg #[.int .u64 a', .int .u64 b', .int .u64 c', .string p', .string m']); refine (version_any a' b' c' p' m' _).mono ?_; rintro e w' ⟨rfl, rfl⟩)
      | (go_at_call 64; refine (vGreater_inner n _ _ _ (HC.out _ _ _ ?_ ?_ ?_)).mono ?_; (exact v6_one a b c p m a' b' c' p' m' w); (exact v6_two a b c p m a' b' c' p' m' w); (exact HV.out.below (vw_below a b c p m a' b' c' p' m' w).drew); rintro e w1 ⟨rfl, hb⟩))
  all_goals (go_wp2_with fail; go_ret; refine ⟨rfl, bt ?_ hb⟩; go_grown)

theorem vGreaterEqual_inner (n : Int) (g h : Nat) (w : World)
    (hc : Calls Tryd.prog 60 #[.pointer (some ⟨g, 0, none⟩), .pointer (some ⟨h, 0, none⟩)] w fun e w' => e = .returned (.int .i64 n) ∧ Below w.heap.size w w') :
    Calls Tryd.prog 65 #[.pointer (some ⟨g, 0, none⟩), .pointer (some ⟨h, 0, none⟩)] w fun e w' => e = .returned (.bool (decide (0 ≤ n))) ∧ Below w.heap.size w w' := by
  have HC := hid hc
  clear hc
  go_enter Tryd.func65, Tryd.ntmps65
  go_wp2_with (go_at_call 60; refine HC.out.mono ?_; rintro e w' ⟨rfl, hb⟩)
  go_ret
  exact ⟨ret_b (by simp), hb⟩

set_option maxRecDepth 100000 in
theorem vGreaterEqual_any (n : Int) (a b c : Int) (p m : ByteArray) (a' b' c' : Int) (p' m' : ByteArray) (w : World) (hv : Vars w)
    (hc : ∀ (g h : Nat) (W : World), V6 W g a b c p m → V6 W h a' b' c' p' m' → Vars W → Calls Tryd.prog 60 #[.pointer (some ⟨g, 0, none⟩), .pointer (some ⟨h, 0, none⟩)] W fun e w' => e = .returned (.int .i64 n) ∧ Below W.heap.size W w') :
    Calls Tryd.prog 24 #[.agg (scells a b c p m), .agg (scells a' b' c' p' m')] w fun e w' => e = .returned (.bool (decide (0 ≤ n))) ∧ Below w.heap.size w w' := by
  have HC := hid hc
  have HV := hid hv
  clear hc hv
  go_enter Tryd.func24, Tryd.ntmps24
  go_wp2_with fail
  go_region_held3 (fun w' => w'.cell? ⟨w.heap.size, 0, none⟩ = some (.int .u64 a) ∧ w'.cell? ⟨w.heap.size, 1, none⟩ = some (.int .u64 b) ∧ w'.cell? ⟨w.heap.size, 2, none⟩ = some (.int .u64 c) ∧ w'.cell? ⟨w.heap.size, 3, none⟩ = some (.string p) ∧ w'.cell? ⟨w.heap.size, 4, none⟩ = some (.string m) ∧ w'.cell? ⟨w.heap.size + 1, 0, none⟩ = some (.int .u64 a') ∧ w'.cell? ⟨w.heap.size + 1, 1, none⟩ = some (.int .u64 b') ∧ w'.cell? ⟨w.heap.size + 1, 2, none⟩ = some (.int .u64 c') ∧ w'.cell? ⟨w.heap.size + 1, 3, none⟩ = some (.string p') ∧ w'.cell? ⟨w.heap.size + 1, 4, none⟩ = some (.string m')) (first | (refine keep10 (t := 27) ?_; go_grown; done) | (refine keep10 (t := 27) (bt ?_ hb); go_grown; done))
    (first
      | (go_at_call_of 59 (Value.agg #[.int .u64 a, .int .u64 b, .int .u64 c, .string p, .string m]); refine (version_any a b c p m _).mono ?_; rintro e w' ⟨rfl, rfl⟩)
      | (go_at_call_of 59 (Value.agg #[.int .u64 a', .int .u64 b', .int .u64 c', .string p', .string m']); refine (version_any a' b' c' p' m' _).mono ?_; rintro e w' ⟨rfl, rfl⟩)
      | (go_at_call 65; refine (vGreaterEqual_inner n _ _ _ (HC.out _ _ _ ?_ ?_ ?_)).mono ?_; (exact v6_one a b c p m a' b' c' p' m' w); (exact v6_two a b c p m a' b' c' p' m' w); (exact HV.out.below (vw_below a b c p m a' b' c' p' m' w).drew); rintro e w1 ⟨rfl, hb⟩))
  all_goals (go_wp2_with fail; go_ret; refine ⟨rfl, bt ?_ hb⟩; go_grown)

end Go.Proofs.YtmlbjcdildaldaaDoor
