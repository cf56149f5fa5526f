/- impl.term, walked. -/
import Derived.Test.YtkohcmgckkenpaaDoorDoorB
import Derived.Deep.RegionHeld3
import Derived.Deep.RegionWith
set_option linter.unusedVariables false
set_option linter.unusedSimpArgs false
namespace Go.Proofs.YtkohcmgckkenpaaDoor
open Go.RowKit

abbrev tcells (o k : Nat) (a b c : Int) (p : ByteArray) : Array Value := #[.int .i64 o, .int .i64 k, .int .u64 a, .int .u64 b, .int .u64 c, .string p]
theorem blk3 (w : World) (x y : Obj) {t : TypeId} {cs : Array Value} : Blk (((w.alloc x).alloc y).alloc (.cells cs t)).drew (w.heap.size + 1 + 1) t cs := by
  have := Blk.new ((w.alloc x).alloc y) t cs
  simp at this
  exact this

set_option maxRecDepth 100000 in
theorem term_0 (o : Nat) (ho : o < 8) (a' b' c' : Int) (p' : ByteArray) (w : World) :
    Calls Tryd.prog 32 #[.agg (tcells o 0 a' b' c' p')] w fun e w' => (∃ h, w.heap.size ≤ h ∧ e = .returned (.agg (zcells (opS o) h true false false)) ∧ Blk w' h 67 (vcells a' b' c' p' ByteArray.empty)) ∧ Below w.heap.size w w' := by
  go_enter Tryd.func32, Tryd.ntmps32
  go_wp2_with fail
  go_region_held3 (fun w' => w'.cell? ⟨w.heap.size, 0, none⟩ = some (.int .i64 o) ∧ w'.cell? ⟨w.heap.size, 1, none⟩ = some (.int .i64 0) ∧ w'.cell? ⟨w.heap.size, 2, none⟩ = some (.int .u64 a') ∧ w'.cell? ⟨w.heap.size, 3, none⟩ = some (.int .u64 b') ∧ w'.cell? ⟨w.heap.size, 4, none⟩ = some (.int .u64 c') ∧ w'.cell? ⟨w.heap.size, 5, none⟩ = some (.string p')) (simp [go_sem])
    (first | (go_at_call 41; refine (operator_any o ho _).mono ?_; rintro e w' ⟨rfl, rfl⟩) | (go_at_call 34; refine (zzVersion_any _ _ _ _ _ _).mono ?_; rintro e w' ⟨rfl, rfl⟩))
  all_goals (go_wp2_with fail; go_returns; exact ⟨⟨_, by omega, rfl, blk3 _ _ _⟩, by go_grown⟩)

set_option maxRecDepth 100000 in
theorem term_1 (o : Nat) (ho : o < 8) (a' b' c' : Int) (p' : ByteArray) (w : World) :
    Calls Tryd.prog 32 #[.agg (tcells o 1 a' b' c' p')] w fun e w' => (∃ h, w.heap.size ≤ h ∧ e = .returned (.agg (zcells (opS o) h true true false)) ∧ Blk w' h 67 (vcells a' b' c' p' ByteArray.empty)) ∧ Below w.heap.size w w' := by
  go_enter Tryd.func32, Tryd.ntmps32
  go_wp2_with fail
  go_region_held3 (fun w' => w'.cell? ⟨w.heap.size, 0, none⟩ = some (.int .i64 o) ∧ w'.cell? ⟨w.heap.size, 1, none⟩ = some (.int .i64 1) ∧ w'.cell? ⟨w.heap.size, 2, none⟩ = some (.int .u64 a') ∧ w'.cell? ⟨w.heap.size, 3, none⟩ = some (.int .u64 b') ∧ w'.cell? ⟨w.heap.size, 4, none⟩ = some (.int .u64 c') ∧ w'.cell? ⟨w.heap.size, 5, none⟩ = some (.string p')) (simp [go_sem])
    (first | (go_at_call 41; refine (operator_any o ho _).mono ?_; rintro e w' ⟨rfl, rfl⟩) | (go_at_call 34; refine (zzVersion_any _ _ _ _ _ _).mono ?_; rintro e w' ⟨rfl, rfl⟩))
  all_goals (go_wp2_with fail; go_returns; exact ⟨⟨_, by omega, rfl, blk3 _ _ _⟩, by go_grown⟩)

set_option maxRecDepth 100000 in
theorem term_2 (o : Nat) (ho : o < 8) (a' b' c' : Int) (p' : ByteArray) (w : World) :
    Calls Tryd.prog 32 #[.agg (tcells o 2 a' b' c' p')] w fun e w' => (∃ h, w.heap.size ≤ h ∧ e = .returned (.agg (zcells (opS o) h true false true)) ∧ Blk w' h 67 (vcells a' b' c' p' ByteArray.empty)) ∧ Below w.heap.size w w' := by
  go_enter Tryd.func32, Tryd.ntmps32
  go_wp2_with fail
  go_region_held3 (fun w' => w'.cell? ⟨w.heap.size, 0, none⟩ = some (.int .i64 o) ∧ w'.cell? ⟨w.heap.size, 1, none⟩ = some (.int .i64 2) ∧ w'.cell? ⟨w.heap.size, 2, none⟩ = some (.int .u64 a') ∧ w'.cell? ⟨w.heap.size, 3, none⟩ = some (.int .u64 b') ∧ w'.cell? ⟨w.heap.size, 4, none⟩ = some (.int .u64 c') ∧ w'.cell? ⟨w.heap.size, 5, none⟩ = some (.string p')) (simp [go_sem])
    (first | (go_at_call 41; refine (operator_any o ho _).mono ?_; rintro e w' ⟨rfl, rfl⟩) | (go_at_call 34; refine (zzVersion_any _ _ _ _ _ _).mono ?_; rintro e w' ⟨rfl, rfl⟩))
  all_goals (go_wp2_with fail; go_returns; exact ⟨⟨_, by omega, rfl, blk3 _ _ _⟩, by go_grown⟩)

set_option maxRecDepth 100000 in
theorem term_3 (o : Nat) (ho : o < 8) (a' b' c' : Int) (p' : ByteArray) (w : World) :
    Calls Tryd.prog 32 #[.agg (tcells o 3 a' b' c' p')] w fun e w' => (∃ h, w.heap.size ≤ h ∧ e = .returned (.agg (zcells (opS o) h false false false)) ∧ Blk w' h 67 (vcells a' b' c' p' ByteArray.empty)) ∧ Below w.heap.size w w' := by
  go_enter Tryd.func32, Tryd.ntmps32
  go_wp2_with fail
  go_region_held3 (fun w' => w'.cell? ⟨w.heap.size, 0, none⟩ = some (.int .i64 o) ∧ w'.cell? ⟨w.heap.size, 1, none⟩ = some (.int .i64 3) ∧ w'.cell? ⟨w.heap.size, 2, none⟩ = some (.int .u64 a') ∧ w'.cell? ⟨w.heap.size, 3, none⟩ = some (.int .u64 b') ∧ w'.cell? ⟨w.heap.size, 4, none⟩ = some (.int .u64 c') ∧ w'.cell? ⟨w.heap.size, 5, none⟩ = some (.string p')) (simp [go_sem])
    (first | (go_at_call 41; refine (operator_any o ho _).mono ?_; rintro e w' ⟨rfl, rfl⟩) | (go_at_call 34; refine (zzVersion_any _ _ _ _ _ _).mono ?_; rintro e w' ⟨rfl, rfl⟩))
  all_goals (go_wp2_with fail; go_returns; exact ⟨⟨_, by omega, rfl, blk3 _ _ _⟩, by go_grown⟩)

theorem term_any (o k : Nat) (ho : o < 8) (hk : k ≤ 3) (a' b' c' : Int) (p' : ByteArray) (w : World) :
    Calls Tryd.prog 32 #[.agg (tcells o k a' b' c' p')] w fun e w' => (∃ h, w.heap.size ≤ h ∧ e = .returned (.agg (zcells (opS o) h (decide (k < 3)) (k == 1) (k == 2))) ∧ Blk w' h 67 (vcells a' b' c' p' ByteArray.empty)) ∧ Below w.heap.size w w' := by
  obtain rfl | rfl | rfl | rfl : k = 0 ∨ k = 1 ∨ k = 2 ∨ k = 3 := by omega
  · exact term_0 o ho a' b' c' p' w
  · exact term_1 o ho a' b' c' p' w
  · exact term_2 o ho a' b' c' p' w
  · exact term_3 o ho a' b' c' p' w

end Go.Proofs.YtkohcmgckkenpaaDoor
