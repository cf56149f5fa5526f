/- The doors of the comparisons of terms, walked: more. -/
import Derived.Test.YtmlbjcdildaldaaDoorDoor
set_option linter.unusedVariables false
set_option linter.unusedSimpArgs false
namespace Go.Proofs.YtmlbjcdildaldaaDoor
open Go.RowKit

set_option maxHeartbeats 800000 in
set_option maxRecDepth 100000 in
theorem leastHolds_any (o k : Nat) (ho : o < 8) (hk : k ≤ 3) (a b c : Int) (p m : ByteArray) (a' b' c' : Int) (p' : ByteArray) (pre r : Bool) (w : World) (hv : Vars w)
    (hr : ∀ g h, OpIs 104 g h a b c p m a' b' c' p' ByteArray.empty (opS o) ByteArray.empty (k == 1) (decide (k < 3)) (k == 2) pre r) :
    Calls Tryd.prog 30 #[.agg (tcells o k a' b' c' p'), .agg (scells a b c p m), .bool pre] w fun e w' => e = .returned (.bool r) ∧ Below w.heap.size w w' := by
  have HR := hid hr
  have HV := hid hv
  have HO := hid ho
  have HK := hid hk
  clear hr hv ho hk
  have BW : Below w.heap.size w ((w.alloc (.cells (tcells o k a' b' c' p') 36)).alloc (.cells (scells a b c p m) 27)) := by go_grown
  have HW := hid BW
  clear BW
  have B0 := hid (Below.refl ((w.alloc (.cells (tcells o k a' b' c' p') 36)).alloc (.cells (scells a b c p m) 27)).heap.size ((w.alloc (.cells (tcells o k a' b' c' p') 36)).alloc (.cells (scells a b c p m) 27)))
  go_enter Tryd.func30, Tryd.ntmps30
  go_wp2_with fail
  go_region_held3 (fun w' => w'.cell? ⟨w.heap.size, 0, none⟩ = some (.int .i64 o) ∧ w'.cell? ⟨w.heap.size, 1, none⟩ = some (.int .i64 k) ∧ w'.cell? ⟨w.heap.size, 2, none⟩ = some (.int .u64 a') ∧ w'.cell? ⟨w.heap.size, 3, none⟩ = some (.int .u64 b') ∧ w'.cell? ⟨w.heap.size, 4, none⟩ = some (.int .u64 c') ∧ w'.cell? ⟨w.heap.size, 5, none⟩ = some (.string p') ∧ w'.cell? ⟨w.heap.size + 1, 0, none⟩ = some (.int .u64 a) ∧ w'.cell? ⟨w.heap.size + 1, 1, none⟩ = some (.int .u64 b) ∧ w'.cell? ⟨w.heap.size + 1, 2, none⟩ = some (.int .u64 c) ∧ w'.cell? ⟨w.heap.size + 1, 3, none⟩ = some (.string p) ∧ w'.cell? ⟨w.heap.size + 1, 4, none⟩ = some (.string m)) (first | (refine keepTV ?_; exact B3.out; done) | (refine keepTV ?_; exact B1.out; done) | (refine keepTV (bt B1.out ?_); go_grown; done) | (refine keepTV ?_; go_grown; done))
    (first
      | (go_at_call 69; refine (term_any o k HO.out HK.out a' b' c' p' _).mono ?_; rintro e w1 ⟨⟨h1, hh, rfl, hB1⟩, hb1⟩; have B1 := hid (bt (Below.drew (Below.refl ((w.alloc (.cells (tcells o k a' b' c' p') 36)).alloc (.cells (scells a b c p m) 27)).heap.size _)) hb1); have N1 := hid hB1; clear hb1 hB1 hh)
      | (go_at_call 59; refine (version_any a b c p m _).mono ?_; rintro e w2 ⟨rfl, rfl⟩)
      | (go_at_call 72; refine (zz_4 _ h1 a b c p m a' b' c' p' ByteArray.empty _ _ _ _ pre r _ ?_ ?_ ?_ ?_ ?_).mono ?_; (exact ver_new _ _ _ _); (exact (N1.out.alloc _).alloc _); (have := N1.out.lt; omega); (exact HV.out.below (bt HW.out (bt B1.out (by go_grown)))); (exact HR.out _ _); rintro e w3 ⟨⟨er, rfl⟩, hb3⟩; have B3 := hid (bt (bt B1.out (by go_grown)) hb3); clear hb3))
  all_goals (go_wp2_with fail; go_ret; exact ⟨rfl, bt HW.out B3.out⟩)

set_option maxHeartbeats 800000 in
set_option maxRecDepth 100000 in
theorem mostHolds_any (o k : Nat) (ho : o < 8) (hk : k ≤ 3) (a b c : Int) (p m : ByteArray) (a' b' c' : Int) (p' : ByteArray) (pre r : Bool) (w : World) (hv : Vars w)
    (hr : ∀ g h, OpIs 111 g h a b c p m a' b' c' p' ByteArray.empty (opS o) ByteArray.empty (k == 1) (decide (k < 3)) (k == 2) pre r) :
    Calls Tryd.prog 50 #[.agg (tcells o k a' b' c' p'), .agg (scells a b c p m), .bool pre] w fun e w' => e = .returned (.bool r) ∧ Below w.heap.size w w' := by
  have HR := hid hr
  have HV := hid hv
  have HO := hid ho
  have HK := hid hk
  clear hr hv ho hk
  have BW : Below w.heap.size w ((w.alloc (.cells (tcells o k a' b' c' p') 36)).alloc (.cells (scells a b c p m) 27)) := by go_grown
  have HW := hid BW
  clear BW
  have B0 := hid (Below.refl ((w.alloc (.cells (tcells o k a' b' c' p') 36)).alloc (.cells (scells a b c p m) 27)).heap.size ((w.alloc (.cells (tcells o k a' b' c' p') 36)).alloc (.cells (scells a b c p m) 27)))
  go_enter Tryd.func50, Tryd.ntmps50
  go_wp2_with fail
  go_region_held3 (fun w' => w'.cell? ⟨w.heap.size, 0, none⟩ = some (.int .i64 o) ∧ w'.cell? ⟨w.heap.size, 1, none⟩ = some (.int .i64 k) ∧ w'.cell? ⟨w.heap.size, 2, none⟩ = some (.int .u64 a') ∧ w'.cell? ⟨w.heap.size, 3, none⟩ = some (.int .u64 b') ∧ w'.cell? ⟨w.heap.size, 4, none⟩ = some (.int .u64 c') ∧ w'.cell? ⟨w.heap.size, 5, none⟩ = some (.string p') ∧ w'.cell? ⟨w.heap.size + 1, 0, none⟩ = some (.int .u64 a) ∧ w'.cell? ⟨w.heap.size + 1, 1, none⟩ = some (.int .u64 b) ∧ w'.cell? ⟨w.heap.size + 1, 2, none⟩ = some (.int .u64 c) ∧ w'.cell? ⟨w.heap.size + 1, 3, none⟩ = some (.string p) ∧ w'.cell? ⟨w.heap.size + 1, 4, none⟩ = some (.string m)) (first | (refine keepTV ?_; exact B3.out; done) | (refine keepTV ?_; exact B1.out; done) | (refine keepTV (bt B1.out ?_); go_grown; done) | (refine keepTV ?_; go_grown; done))
    (first
      | (go_at_call 69; refine (term_any o k HO.out HK.out a' b' c' p' _).mono ?_; rintro e w1 ⟨⟨h1, hh, rfl, hB1⟩, hb1⟩; have B1 := hid (bt (Below.drew (Below.refl ((w.alloc (.cells (tcells o k a' b' c' p') 36)).alloc (.cells (scells a b c p m) 27)).heap.size _)) hb1); have N1 := hid hB1; clear hb1 hB1 hh)
      | (go_at_call 59; refine (version_any a b c p m _).mono ?_; rintro e w2 ⟨rfl, rfl⟩)
      | (go_at_call 83; refine (zz_5 _ h1 a b c p m a' b' c' p' ByteArray.empty _ _ _ _ pre r _ ?_ ?_ ?_ ?_ ?_).mono ?_; (exact ver_new _ _ _ _); (exact (N1.out.alloc _).alloc _); (have := N1.out.lt; omega); (exact HV.out.below (bt HW.out (bt B1.out (by go_grown)))); (exact HR.out _ _); rintro e w3 ⟨⟨er, rfl⟩, hb3⟩; have B3 := hid (bt (bt B1.out (by go_grown)) hb3); clear hb3))
  all_goals (go_wp2_with fail; go_ret; exact ⟨rfl, bt HW.out B3.out⟩)

set_option maxHeartbeats 800000 in
set_option maxRecDepth 100000 in
theorem tildeHolds_any (o k : Nat) (ho : o < 8) (hk : k ≤ 3) (a b c : Int) (p m : ByteArray) (a' b' c' : Int) (p' : ByteArray) (pre r : Bool) (w : World) (hv : Vars w)
    (hr : ∀ g h, OpIs 112 g h a b c p m a' b' c' p' ByteArray.empty (opS o) ByteArray.empty (k == 1) (decide (k < 3)) (k == 2) pre r) :
    Calls Tryd.prog 51 #[.agg (tcells o k a' b' c' p'), .agg (scells a b c p m), .bool pre] w fun e w' => e = .returned (.bool r) ∧ Below w.heap.size w w' := by
  have HR := hid hr
  have HV := hid hv
  have HO := hid ho
  have HK := hid hk
  clear hr hv ho hk
  have BW : Below w.heap.size w ((w.alloc (.cells (tcells o k a' b' c' p') 36)).alloc (.cells (scells a b c p m) 27)) := by go_grown
  have HW := hid BW
  clear BW
  have B0 := hid (Below.refl ((w.alloc (.cells (tcells o k a' b' c' p') 36)).alloc (.cells (scells a b c p m) 27)).heap.size ((w.alloc (.cells (tcells o k a' b' c' p') 36)).alloc (.cells (scells a b c p m) 27)))
  go_enter Tryd.func51, Tryd.ntmps51
  go_wp2_with fail
  go_region_held3 (fun w' => w'.cell? ⟨w.heap.size, 0, none⟩ = some (.int .i64 o) ∧ w'.cell? ⟨w.heap.size, 1, none⟩ = some (.int .i64 k) ∧ w'.cell? ⟨w.heap.size, 2, none⟩ = some (.int .u64 a') ∧ w'.cell? ⟨w.heap.size, 3, none⟩ = some (.int .u64 b') ∧ w'.cell? ⟨w.heap.size, 4, none⟩ = some (.int .u64 c') ∧ w'.cell? ⟨w.heap.size, 5, none⟩ = some (.string p') ∧ w'.cell? ⟨w.heap.size + 1, 0, none⟩ = some (.int .u64 a) ∧ w'.cell? ⟨w.heap.size + 1, 1, none⟩ = some (.int .u64 b) ∧ w'.cell? ⟨w.heap.size + 1, 2, none⟩ = some (.int .u64 c) ∧ w'.cell? ⟨w.heap.size + 1, 3, none⟩ = some (.string p) ∧ w'.cell? ⟨w.heap.size + 1, 4, none⟩ = some (.string m)) (first | (refine keepTV ?_; exact B3.out; done) | (refine keepTV ?_; exact B1.out; done) | (refine keepTV (bt B1.out ?_); go_grown; done) | (refine keepTV ?_; go_grown; done))
    (first
      | (go_at_call 69; refine (term_any o k HO.out HK.out a' b' c' p' _).mono ?_; rintro e w1 ⟨⟨h1, hh, rfl, hB1⟩, hb1⟩; have B1 := hid (bt (Below.drew (Below.refl ((w.alloc (.cells (tcells o k a' b' c' p') 36)).alloc (.cells (scells a b c p m) 27)).heap.size _)) hb1); have N1 := hid hB1; clear hb1 hB1 hh)
      | (go_at_call 59; refine (version_any a b c p m _).mono ?_; rintro e w2 ⟨rfl, rfl⟩)
      | (go_at_call 84; refine (zz_6 _ h1 a b c p m a' b' c' p' ByteArray.empty _ _ _ _ pre r _ ?_ ?_ ?_ ?_ ?_).mono ?_; (exact ver_new _ _ _ _); (exact (N1.out.alloc _).alloc _); (have := N1.out.lt; omega); (exact HV.out.below (bt HW.out (bt B1.out (by go_grown)))); (exact HR.out _ _); rintro e w3 ⟨⟨er, rfl⟩, hb3⟩; have B3 := hid (bt (bt B1.out (by go_grown)) hb3); clear hb3))
  all_goals (go_wp2_with fail; go_ret; exact ⟨rfl, bt HW.out B3.out⟩)

set_option maxHeartbeats 800000 in
set_option maxRecDepth 100000 in
theorem caretHolds_any (o k : Nat) (ho : o < 8) (hk : k ≤ 3) (a b c : Int) (p m : ByteArray) (a' b' c' : Int) (p' : ByteArray) (pre r : Bool) (w : World) (hv : Vars w)
    (hr : ∀ g h, OpIs 97 g h a b c p m a' b' c' p' ByteArray.empty (opS o) ByteArray.empty (k == 1) (decide (k < 3)) (k == 2) pre r) :
    Calls Tryd.prog 27 #[.agg (tcells o k a' b' c' p'), .agg (scells a b c p m), .bool pre] w fun e w' => e = .returned (.bool r) ∧ Below w.heap.size w w' := by
  have HR := hid hr
  have HV := hid hv
  have HO := hid ho
  have HK := hid hk
  clear hr hv ho hk
  have BW : Below w.heap.size w ((w.alloc (.cells (tcells o k a' b' c' p') 36)).alloc (.cells (scells a b c p m) 27)) := by go_grown
  have HW := hid BW
  clear BW
  have B0 := hid (Below.refl ((w.alloc (.cells (tcells o k a' b' c' p') 36)).alloc (.cells (scells a b c p m) 27)).heap.size ((w.alloc (.cells (tcells o k a' b' c' p') 36)).alloc (.cells (scells a b c p m) 27)))
  go_enter Tryd.func27, Tryd.ntmps27
  go_wp2_with fail
  go_region_held3 (fun w' => w'.cell? ⟨w.heap.size, 0, none⟩ = some (.int .i64 o) ∧ w'.cell? ⟨w.heap.size, 1, none⟩ = some (.int .i64 k) ∧ w'.cell? ⟨w.heap.size, 2, none⟩ = some (.int .u64 a') ∧ w'.cell? ⟨w.heap.size, 3, none⟩ = some (.int .u64 b') ∧ w'.cell? ⟨w.heap.size, 4, none⟩ = some (.int .u64 c') ∧ w'.cell? ⟨w.heap.size, 5, none⟩ = some (.string p') ∧ w'.cell? ⟨w.heap.size + 1, 0, none⟩ = some (.int .u64 a) ∧ w'.cell? ⟨w.heap.size + 1, 1, none⟩ = some (.int .u64 b) ∧ w'.cell? ⟨w.heap.size + 1, 2, none⟩ = some (.int .u64 c) ∧ w'.cell? ⟨w.heap.size + 1, 3, none⟩ = some (.string p) ∧ w'.cell? ⟨w.heap.size + 1, 4, none⟩ = some (.string m)) (first | (refine keepTV ?_; exact B3.out; done) | (refine keepTV ?_; exact B1.out; done) | (refine keepTV (bt B1.out ?_); go_grown; done) | (refine keepTV ?_; go_grown; done))
    (first
      | (go_at_call 69; refine (term_any o k HO.out HK.out a' b' c' p' _).mono ?_; rintro e w1 ⟨⟨h1, hh, rfl, hB1⟩, hb1⟩; have B1 := hid (bt (Below.drew (Below.refl ((w.alloc (.cells (tcells o k a' b' c' p') 36)).alloc (.cells (scells a b c p m) 27)).heap.size _)) hb1); have N1 := hid hB1; clear hb1 hB1 hh)
      | (go_at_call 59; refine (version_any a b c p m _).mono ?_; rintro e w2 ⟨rfl, rfl⟩)
      | (go_at_call 68; refine (zz_7 _ h1 a b c p m a' b' c' p' ByteArray.empty _ _ _ _ pre r _ ?_ ?_ ?_ ?_ ?_).mono ?_; (exact ver_new _ _ _ _); (exact (N1.out.alloc _).alloc _); (have := N1.out.lt; omega); (exact HV.out.below (bt HW.out (bt B1.out (by go_grown)))); (exact HR.out _ _); rintro e w3 ⟨⟨er, rfl⟩, hb3⟩; have B3 := hid (bt (bt B1.out (by go_grown)) hb3); clear hb3))
  all_goals (go_wp2_with fail; go_ret; exact ⟨rfl, bt HW.out B3.out⟩)

end Go.Proofs.YtmlbjcdildaldaaDoor
