/- stHolds, stBare, walked. -/
import Derived.Test.YtmlbjcdildaldaaDoorTermA
import Derived.Deep.RegionHeld3
import Derived.Deep.RegionWith
set_option linter.unusedVariables false
set_option linter.unusedSimpArgs false
namespace Go.Proofs.YtmlbjcdildaldaaDoor
open Go.RowKit

theorem two_new (w : World) (x y : Array Value) (t u : TypeId) : Blk ((w.alloc (.cells x t)).alloc (.cells y u)) w.heap.size t x ∧ Blk ((w.alloc (.cells x t)).alloc (.cells y u)) (w.heap.size + 1) u y := by
  refine ⟨(Blk.new w _ _).alloc _, ?_⟩
  have := Blk.new (w.alloc (.cells x t)) u y
  rwa [World.size_alloc] at this
theorem blk_gr {w : World} {g : Nat} {t : TypeId} {cs : Array Value} (h : Blk w g t cs) (d : Nat) (os : Array Obj) : Blk (Go.Sort.grow (redrawn w d) os) g t cs := h.below (below_regrown w d os)
theorem vars_gr {w W : World} (hv : Vars w) (hW : Below w.heap.size w W) (d : Nat) (os : Array Obj) : Vars (Go.Sort.grow (redrawn W d) os) := hv.below (bt hW (below_regrown W d os))

set_option maxHeartbeats 800000 in
set_option maxRecDepth 100000 in
theorem stHolds_any (o k : Nat) (ho : o < 8) (hk : k ≤ 3) (oi ki : Int) (eo : oi = o) (ek : ki = k) (a' b' c' : Int) (p' m' : ByteArray) (a b c : Int) (p m : ByteArray) (r : Bool) (w : World) (hv : Vars w)
    (hr : ∀ g h, OpIs (opF o) g h a b c p m a' (cutN k 1 b') (cutN k 2 c') (cutP k p') ByteArray.empty (opS o) ByteArray.empty (k == 1) (decide (k < 3)) (k == 2) true r) :
    Calls Tryd.prog 33 #[.int .i64 oi, .agg (scells a' b' c' p' m'), .int .i64 ki, .agg (scells a b c p m)] w fun e w' => e = .returned (.bool r) ∧ Below w.heap.size w w' := by
  subst eo ek
  have HR := hid hr
  have HV := hid hv
  have HO := hid ho
  have HK := hid hk
  have BW : Below w.heap.size w ((w.alloc (.cells (scells a' b' c' p' m') 27)).alloc (.cells (scells a b c p m) 27)) := by go_grown
  have HW := hid BW
  have C1 := hid (fun d os => Calls.regrown_of (stTerm_any (o : Int) k hk a' b' c' p' m' (Go.Sort.grow (redrawn ((w.alloc (.cells (scells a' b' c' p' m') 27)).alloc (.cells (scells a b c p m) 27)) d) os)))
  have C2 := hid (fun d os => Calls.regrown_of (termHolds_any o k ho hk a b c p m a' (cutN k 1 b') (cutN k 2 c') (cutP k p') true r (Go.Sort.grow (redrawn ((w.alloc (.cells (scells a' b' c' p' m') 27)).alloc (.cells (scells a b c p m) 27)) d) os) (vars_gr hv BW d os) hr))
  obtain ⟨q1, q2⟩ := two_new w (scells a' b' c' p' m') (scells a b c p m) 27 27
  have hk0 : ∀ d os, (Go.Sort.grow (redrawn ((w.alloc (.cells (scells a' b' c' p' m') 27)).alloc (.cells (scells a b c p m) 27)) d) os).cell? ⟨w.heap.size, 0, none⟩ = some (.int .u64 a') ∧ (Go.Sort.grow (redrawn ((w.alloc (.cells (scells a' b' c' p' m') 27)).alloc (.cells (scells a b c p m) 27)) d) os).cell? ⟨w.heap.size, 1, none⟩ = some (.int .u64 b') ∧ (Go.Sort.grow (redrawn ((w.alloc (.cells (scells a' b' c' p' m') 27)).alloc (.cells (scells a b c p m) 27)) d) os).cell? ⟨w.heap.size, 2, none⟩ = some (.int .u64 c') ∧ (Go.Sort.grow (redrawn ((w.alloc (.cells (scells a' b' c' p' m') 27)).alloc (.cells (scells a b c p m) 27)) d) os).cell? ⟨w.heap.size, 3, none⟩ = some (.string p') ∧ (Go.Sort.grow (redrawn ((w.alloc (.cells (scells a' b' c' p' m') 27)).alloc (.cells (scells a b c p m) 27)) d) os).cell? ⟨w.heap.size, 4, none⟩ = some (.string m') ∧ (Go.Sort.grow (redrawn ((w.alloc (.cells (scells a' b' c' p' m') 27)).alloc (.cells (scells a b c p m) 27)) d) os).cell? ⟨w.heap.size + 1, 0, none⟩ = some (.int .u64 a) ∧ (Go.Sort.grow (redrawn ((w.alloc (.cells (scells a' b' c' p' m') 27)).alloc (.cells (scells a b c p m) 27)) d) os).cell? ⟨w.heap.size + 1, 1, none⟩ = some (.int .u64 b) ∧ (Go.Sort.grow (redrawn ((w.alloc (.cells (scells a' b' c' p' m') 27)).alloc (.cells (scells a b c p m) 27)) d) os).cell? ⟨w.heap.size + 1, 2, none⟩ = some (.int .u64 c) ∧ (Go.Sort.grow (redrawn ((w.alloc (.cells (scells a' b' c' p' m') 27)).alloc (.cells (scells a b c p m) 27)) d) os).cell? ⟨w.heap.size + 1, 3, none⟩ = some (.string p) ∧ (Go.Sort.grow (redrawn ((w.alloc (.cells (scells a' b' c' p' m') 27)).alloc (.cells (scells a b c p m) 27)) d) os).cell? ⟨w.heap.size + 1, 4, none⟩ = some (.string m) := fun d os => by
    have u1 := blk_gr q1 d os
    have u2 := blk_gr q2 d os
    exact ⟨u1.cell 0, u1.cell 1, u1.cell 2, u1.cell 3, u1.cell 4, u2.cell 0, u2.cell 1, u2.cell 2, u2.cell 3, u2.cell 4⟩
  have k0 := fun d os => (hk0 d os).1
  have k1 := fun d os => (hk0 d os).2.1
  have k2 := fun d os => (hk0 d os).2.2.1
  have k3 := fun d os => (hk0 d os).2.2.2.1
  have k4 := fun d os => (hk0 d os).2.2.2.2.1
  have k5 := fun d os => (hk0 d os).2.2.2.2.2.1
  have k6 := fun d os => (hk0 d os).2.2.2.2.2.2.1
  have k7 := fun d os => (hk0 d os).2.2.2.2.2.2.2.1
  have k8 := fun d os => (hk0 d os).2.2.2.2.2.2.2.2.1
  have k9 := fun d os => (hk0 d os).2.2.2.2.2.2.2.2.2
  clear hr hv ho hk BW q1 q2 hk0
  go_enter Tryd.func33, Tryd.ntmps33
  go_wp2_with fail
  refine wp_region_quiet_below (by kernel_rfl) (by kernel_rfl) ?_
  repeat (go_big_quiet_step ((first | (go_at_call 36; exact C1.out _ _) | (go_at_call 35; exact C2.out _ _))))
  refine wpQuiet_nil ?_
  intro _ hw'
  obtain ⟨⟨dq, osq⟩, hw''⟩ := hw'
  subst hw''
  go_wp2_with fail
  go_ret
  exact ⟨rfl, bt HW.out (below_regrown _ _ _)⟩

set_option maxHeartbeats 1600000 in
set_option maxRecDepth 100000 in
theorem stBare_yes (k : Int) (h1 : 1 ≤ k) (h3 : k ≤ 3) (a' b' c' : Int) (p' m' : ByteArray) (a b c : Int) (p m : ByteArray) (w : World) :
    Calls Tryd.prog 32 #[.agg (scells a' b' c' p' m'), .agg (scells a b c p m), .int .i64 k] w fun e w' => e = .returned (.tuple #[.agg (scells a' b' c' ByteArray.empty ByteArray.empty), .agg (scells a b c ByteArray.empty ByteArray.empty), .bool true]) ∧ Below w.heap.size w w' := by
  go_enter Tryd.func32, Tryd.ntmps32
  go_wp2_with fail
  go_region_held3 (fun w' => w'.cell? ⟨w.heap.size, 0, none⟩ = some (.int .u64 a') ∧ w'.cell? ⟨w.heap.size, 1, none⟩ = some (.int .u64 b') ∧ w'.cell? ⟨w.heap.size, 2, none⟩ = some (.int .u64 c') ∧ w'.cell? ⟨w.heap.size, 3, none⟩ = some (.string p') ∧ w'.cell? ⟨w.heap.size, 4, none⟩ = some (.string m') ∧ w'.cell? ⟨w.heap.size + 1, 0, none⟩ = some (.int .u64 a) ∧ w'.cell? ⟨w.heap.size + 1, 1, none⟩ = some (.int .u64 b) ∧ w'.cell? ⟨w.heap.size + 1, 2, none⟩ = some (.int .u64 c) ∧ w'.cell? ⟨w.heap.size + 1, 3, none⟩ = some (.string p) ∧ w'.cell? ⟨w.heap.size + 1, 4, none⟩ = some (.string m)) (simp [go_sem])
    (first | (go_at_call_of 39 (Value.agg #[.int .u64 a', .int .u64 b', .int .u64 c', .string p', .string m']); refine (bare_exact a' b' c' p' m' _).mono ?_; rintro e w' ⟨rfl, rfl⟩) | (go_at_call_of 39 (Value.agg #[.int .u64 a, .int .u64 b, .int .u64 c, .string p, .string m]); refine (bare_exact a b c p m _).mono ?_; rintro e w' ⟨rfl, rfl⟩))
  all_goals (go_wp2_with fail; go_returns; exact ⟨rfl, by go_grown⟩)

set_option maxHeartbeats 1600000 in
set_option maxRecDepth 100000 in
theorem stBare_low (k : Int) (h1 : k < 1) (a' b' c' : Int) (p' m' : ByteArray) (a b c : Int) (p m : ByteArray) (w : World) :
    Calls Tryd.prog 32 #[.agg (scells a' b' c' p' m'), .agg (scells a b c p m), .int .i64 k] w fun e w' => e = .returned (.tuple #[.agg (scells a' b' c' ByteArray.empty ByteArray.empty), .agg (scells a b c ByteArray.empty ByteArray.empty), .bool false]) ∧ Below w.heap.size w w' := by
  have h1_d : decide (1 ≤ k) = false := decide_eq_false (by omega)
  go_enter Tryd.func32, Tryd.ntmps32
  go_wp2_with fail
  first | go_region_with (first | (go_at_call_of 39 (Value.agg #[.int .u64 a', .int .u64 b', .int .u64 c', .string p', .string m']); refine (bare_exact a' b' c' p' m' _).mono ?_; rintro e w' ⟨rfl, rfl⟩) | (go_at_call_of 39 (Value.agg #[.int .u64 a, .int .u64 b, .int .u64 c, .string p, .string m]); refine (bare_exact a b c p m _).mono ?_; rintro e w' ⟨rfl, rfl⟩)) | fail
  all_goals (go_wp2_with fail; go_returns; exact ⟨rfl, by go_grown⟩)

set_option maxHeartbeats 1600000 in
set_option maxRecDepth 100000 in
theorem stBare_high (k : Int) (h1 : 1 ≤ k) (h3 : 3 < k) (a' b' c' : Int) (p' m' : ByteArray) (a b c : Int) (p m : ByteArray) (w : World) :
    Calls Tryd.prog 32 #[.agg (scells a' b' c' p' m'), .agg (scells a b c p m), .int .i64 k] w fun e w' => e = .returned (.tuple #[.agg (scells a' b' c' ByteArray.empty ByteArray.empty), .agg (scells a b c ByteArray.empty ByteArray.empty), .bool false]) ∧ Below w.heap.size w w' := by
  have h3_d : decide (k ≤ 3) = false := decide_eq_false (by omega)
  go_enter Tryd.func32, Tryd.ntmps32
  go_wp2_with fail
  go_region_held3 (fun w' => w'.cell? ⟨w.heap.size, 0, none⟩ = some (.int .u64 a') ∧ w'.cell? ⟨w.heap.size, 1, none⟩ = some (.int .u64 b') ∧ w'.cell? ⟨w.heap.size, 2, none⟩ = some (.int .u64 c') ∧ w'.cell? ⟨w.heap.size, 3, none⟩ = some (.string p') ∧ w'.cell? ⟨w.heap.size, 4, none⟩ = some (.string m') ∧ w'.cell? ⟨w.heap.size + 1, 0, none⟩ = some (.int .u64 a) ∧ w'.cell? ⟨w.heap.size + 1, 1, none⟩ = some (.int .u64 b) ∧ w'.cell? ⟨w.heap.size + 1, 2, none⟩ = some (.int .u64 c) ∧ w'.cell? ⟨w.heap.size + 1, 3, none⟩ = some (.string p) ∧ w'.cell? ⟨w.heap.size + 1, 4, none⟩ = some (.string m)) (simp [go_sem])
    (first | (go_at_call_of 39 (Value.agg #[.int .u64 a', .int .u64 b', .int .u64 c', .string p', .string m']); refine (bare_exact a' b' c' p' m' _).mono ?_; rintro e w' ⟨rfl, rfl⟩) | (go_at_call_of 39 (Value.agg #[.int .u64 a, .int .u64 b, .int .u64 c, .string p, .string m]); refine (bare_exact a b c p m _).mono ?_; rintro e w' ⟨rfl, rfl⟩))
  all_goals (go_wp2_with fail; go_returns; exact ⟨rfl, by go_grown⟩)

end Go.Proofs.YtmlbjcdildaldaaDoor
