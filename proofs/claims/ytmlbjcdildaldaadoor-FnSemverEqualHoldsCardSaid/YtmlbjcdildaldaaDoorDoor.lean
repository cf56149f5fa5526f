/- The doors of the comparisons of terms, walked. -/
import Derived.Test.YtmlbjcdildaldaaDoorTerm
set_option linter.unusedVariables false
set_option linter.unusedSimpArgs false
namespace Go.Proofs.YtmlbjcdildaldaaDoor
open Go.RowKit

theorem keepTV {o k : Nat} {a b c : Int} {p m : ByteArray} {a' b' c' : Int} {p' : ByteArray} {w w' : World} (hb : Below ((w.alloc (.cells (tcells o k a' b' c' p') 36)).alloc (.cells (scells a b c p m) 27)).heap.size ((w.alloc (.cells (tcells o k a' b' c' p') 36)).alloc (.cells (scells a b c p m) 27)) w') : w'.cell? ⟨w.heap.size, 0, none⟩ = some (.int .i64 o) ∧ w'.cell? ⟨w.heap.size, 1, none⟩ = some (.int .i64 k) ∧ w'.cell? ⟨w.heap.size, 2, none⟩ = some (.int .u64 a') ∧ w'.cell? ⟨w.heap.size, 3, none⟩ = some (.int .u64 b') ∧ w'.cell? ⟨w.heap.size, 4, none⟩ = some (.int .u64 c') ∧ w'.cell? ⟨w.heap.size, 5, none⟩ = some (.string p') ∧ w'.cell? ⟨w.heap.size + 1, 0, none⟩ = some (.int .u64 a) ∧ w'.cell? ⟨w.heap.size + 1, 1, none⟩ = some (.int .u64 b) ∧ w'.cell? ⟨w.heap.size + 1, 2, none⟩ = some (.int .u64 c) ∧ w'.cell? ⟨w.heap.size + 1, 3, none⟩ = some (.string p) ∧ w'.cell? ⟨w.heap.size + 1, 4, none⟩ = some (.string m) := by
  have h1 : Blk ((w.alloc (.cells (tcells o k a' b' c' p') 36)).alloc (.cells (scells a b c p m) 27)) w.heap.size 36 (tcells o k a' b' c' p') := (Blk.new w _ _).alloc _
  have h2 : Blk ((w.alloc (.cells (tcells o k a' b' c' p') 36)).alloc (.cells (scells a b c p m) 27)) (w.heap.size + 1) 27 (scells a b c p m) := by
    have := Blk.new (w.alloc (.cells (tcells o k a' b' c' p') 36)) 27 (scells a b c p m)
    rwa [World.size_alloc] at this
  have k1 := h1.below hb
  have k2 := h2.below hb
  exact ⟨k1.cell 0, k1.cell 1, k1.cell 2, k1.cell 3, k1.cell 4, k1.cell 5, k2.cell 0, k2.cell 1, k2.cell 2, k2.cell 3, k2.cell 4⟩
theorem ver_new (w : World) (x : Obj) (t : TypeId) (cs : Array Value) : Blk ((w.alloc x).alloc (.cells cs t)) (w.heap.size + 1) t cs := by
  have := Blk.new (w.alloc x) t cs
  rwa [World.size_alloc] at this

set_option maxHeartbeats 800000 in
set_option maxRecDepth 100000 in
theorem termHolds_any (o k : Nat) (ho : o < 8) (hk : k ≤ 3) (a b c : Int) (p m : ByteArray) (a' b' c' : Int) (p' : ByteArray) (pre r : Bool) (w : World) (hv : Vars w)
    (hr : ∀ g h, OpIs (opF o) g h a b c p m a' b' c' p' ByteArray.empty (opS o) ByteArray.empty (k == 1) (decide (k < 3)) (k == 2) pre r) :
    Calls Tryd.prog 35 #[.agg (tcells o k a' b' c' p'), .agg (scells a b c p m), .bool pre] w fun e w' => e = .returned (.bool r) ∧ Below w.heap.size w w' := by
  have HR := hid hr
  have HV := hid hv
  have HO := hid ho
  have HK := hid hk
  clear hr hv ho hk
  have BW : Below w.heap.size w ((w.alloc (.cells (tcells o k a' b' c' p') 36)).alloc (.cells (scells a b c p m) 27)) := by go_grown
  have HW := hid BW
  clear BW
  have B0 := hid (Below.refl ((w.alloc (.cells (tcells o k a' b' c' p') 36)).alloc (.cells (scells a b c p m) 27)).heap.size ((w.alloc (.cells (tcells o k a' b' c' p') 36)).alloc (.cells (scells a b c p m) 27)))
  go_enter Tryd.func35, Tryd.ntmps35
  go_wp2_with fail
  go_region_held3 (fun w' => w'.cell? ⟨w.heap.size, 0, none⟩ = some (.int .i64 o) ∧ w'.cell? ⟨w.heap.size, 1, none⟩ = some (.int .i64 k) ∧ w'.cell? ⟨w.heap.size, 2, none⟩ = some (.int .u64 a') ∧ w'.cell? ⟨w.heap.size, 3, none⟩ = some (.int .u64 b') ∧ w'.cell? ⟨w.heap.size, 4, none⟩ = some (.int .u64 c') ∧ w'.cell? ⟨w.heap.size, 5, none⟩ = some (.string p') ∧ w'.cell? ⟨w.heap.size + 1, 0, none⟩ = some (.int .u64 a) ∧ w'.cell? ⟨w.heap.size + 1, 1, none⟩ = some (.int .u64 b) ∧ w'.cell? ⟨w.heap.size + 1, 2, none⟩ = some (.int .u64 c) ∧ w'.cell? ⟨w.heap.size + 1, 3, none⟩ = some (.string p) ∧ w'.cell? ⟨w.heap.size + 1, 4, none⟩ = some (.string m)) (first | (refine keepTV ?_; exact B3.out; done) | (refine keepTV ?_; exact B1.out; done) | (refine keepTV (bt B1.out ?_); go_grown; done) | (refine keepTV ?_; go_grown; done))
    (first
      | (go_at_call 69; refine (term_any o k HO.out HK.out a' b' c' p' _).mono ?_; rintro e w1 ⟨⟨h1, hh, rfl, hB1⟩, hb1⟩; have B1 := hid (bt (Below.drew (Below.refl ((w.alloc (.cells (tcells o k a' b' c' p') 36)).alloc (.cells (scells a b c p m) 27)).heap.size _)) hb1); have N1 := hid hB1; clear hb1 hB1 hh)
      | (go_at_call 59; refine (version_any a b c p m _).mono ?_; rintro e w2 ⟨rfl, rfl⟩)
      | (go_at_call 73; refine (zzcheck_any o HO.out _ h1 a b c p m a' b' c' p' ByteArray.empty _ _ _ pre r _ ?_ ?_ ?_ ?_ ?_).mono ?_; (exact ver_new _ _ _ _); (exact (N1.out.alloc _).alloc _); (have := N1.out.lt; omega); (exact HV.out.below (bt HW.out (bt B1.out (by go_grown)))); (exact HR.out _ _); rintro e w3 ⟨⟨er, rfl⟩, hb3⟩; have B3 := hid (bt (bt B1.out (by go_grown)) hb3); clear hb3))
  all_goals (go_wp2_with fail; go_ret; exact ⟨rfl, bt HW.out B3.out⟩)

set_option maxHeartbeats 800000 in
set_option maxRecDepth 100000 in
theorem equalHolds_any (o k : Nat) (ho : o < 8) (hk : k ≤ 3) (a b c : Int) (p m : ByteArray) (a' b' c' : Int) (p' : ByteArray) (pre r : Bool) (w : World) (hv : Vars w)
    (hr : ∀ g h, OpIs 103 g h a b c p m a' b' c' p' ByteArray.empty (opS o) ByteArray.empty (k == 1) (decide (k < 3)) (k == 2) pre r) :
    Calls Tryd.prog 29 #[.agg (tcells o k a' b' c' p'), .agg (scells a b c p m), .bool pre] w fun e w' => e = .returned (.bool r) ∧ Below w.heap.size w w' := by
  have HR := hid hr
  have HV := hid hv
  have HO := hid ho
  have HK := hid hk
  clear hr hv ho hk
  have BW : Below w.heap.size w ((w.alloc (.cells (tcells o k a' b' c' p') 36)).alloc (.cells (scells a b c p m) 27)) := by go_grown
  have HW := hid BW
  clear BW
  have B0 := hid (Below.refl ((w.alloc (.cells (tcells o k a' b' c' p') 36)).alloc (.cells (scells a b c p m) 27)).heap.size ((w.alloc (.cells (tcells o k a' b' c' p') 36)).alloc (.cells (scells a b c p m) 27)))
  go_enter Tryd.func29, Tryd.ntmps29
  go_wp2_with fail
  go_region_held3 (fun w' => w'.cell? ⟨w.heap.size, 0, none⟩ = some (.int .i64 o) ∧ w'.cell? ⟨w.heap.size, 1, none⟩ = some (.int .i64 k) ∧ w'.cell? ⟨w.heap.size, 2, none⟩ = some (.int .u64 a') ∧ w'.cell? ⟨w.heap.size, 3, none⟩ = some (.int .u64 b') ∧ w'.cell? ⟨w.heap.size, 4, none⟩ = some (.int .u64 c') ∧ w'.cell? ⟨w.heap.size, 5, none⟩ = some (.string p') ∧ w'.cell? ⟨w.heap.size + 1, 0, none⟩ = some (.int .u64 a) ∧ w'.cell? ⟨w.heap.size + 1, 1, none⟩ = some (.int .u64 b) ∧ w'.cell? ⟨w.heap.size + 1, 2, none⟩ = some (.int .u64 c) ∧ w'.cell? ⟨w.heap.size + 1, 3, none⟩ = some (.string p) ∧ w'.cell? ⟨w.heap.size + 1, 4, none⟩ = some (.string m)) (first | (refine keepTV ?_; exact B3.out; done) | (refine keepTV ?_; exact B1.out; done) | (refine keepTV (bt B1.out ?_); go_grown; done) | (refine keepTV ?_; go_grown; done))
    (first
      | (go_at_call 69; refine (term_any o k HO.out HK.out a' b' c' p' _).mono ?_; rintro e w1 ⟨⟨h1, hh, rfl, hB1⟩, hb1⟩; have B1 := hid (bt (Below.drew (Below.refl ((w.alloc (.cells (tcells o k a' b' c' p') 36)).alloc (.cells (scells a b c p m) 27)).heap.size _)) hb1); have N1 := hid hB1; clear hb1 hB1 hh)
      | (go_at_call 59; refine (version_any a b c p m _).mono ?_; rintro e w2 ⟨rfl, rfl⟩)
      | (go_at_call 71; refine (zz_0 _ h1 a b c p m a' b' c' p' ByteArray.empty _ _ _ _ pre r _ ?_ ?_ ?_ ?_ ?_).mono ?_; (exact ver_new _ _ _ _); (exact (N1.out.alloc _).alloc _); (have := N1.out.lt; omega); (exact HV.out.below (bt HW.out (bt B1.out (by go_grown)))); (exact HR.out _ _); rintro e w3 ⟨⟨er, rfl⟩, hb3⟩; have B3 := hid (bt (bt B1.out (by go_grown)) hb3); clear hb3))
  all_goals (go_wp2_with fail; go_ret; exact ⟨rfl, bt HW.out B3.out⟩)

set_option maxHeartbeats 800000 in
set_option maxRecDepth 100000 in
theorem notEqualHolds_any (o k : Nat) (ho : o < 8) (hk : k ≤ 3) (a b c : Int) (p m : ByteArray) (a' b' c' : Int) (p' : ByteArray) (pre r : Bool) (w : World) (hv : Vars w)
    (hr : ∀ g h, OpIs 108 g h a b c p m a' b' c' p' ByteArray.empty (opS o) ByteArray.empty (k == 1) (decide (k < 3)) (k == 2) pre r) :
    Calls Tryd.prog 47 #[.agg (tcells o k a' b' c' p'), .agg (scells a b c p m), .bool pre] w fun e w' => e = .returned (.bool r) ∧ Below w.heap.size w w' := by
  have HR := hid hr
  have HV := hid hv
  have HO := hid ho
  have HK := hid hk
  clear hr hv ho hk
  have BW : Below w.heap.size w ((w.alloc (.cells (tcells o k a' b' c' p') 36)).alloc (.cells (scells a b c p m) 27)) := by go_grown
  have HW := hid BW
  clear BW
  have B0 := hid (Below.refl ((w.alloc (.cells (tcells o k a' b' c' p') 36)).alloc (.cells (scells a b c p m) 27)).heap.size ((w.alloc (.cells (tcells o k a' b' c' p') 36)).alloc (.cells (scells a b c p m) 27)))
  go_enter Tryd.func47, Tryd.ntmps47
  go_wp2_with fail
  go_region_held3 (fun w' => w'.cell? ⟨w.heap.size, 0, none⟩ = some (.int .i64 o) ∧ w'.cell? ⟨w.heap.size, 1, none⟩ = some (.int .i64 k) ∧ w'.cell? ⟨w.heap.size, 2, none⟩ = some (.int .u64 a') ∧ w'.cell? ⟨w.heap.size, 3, none⟩ = some (.int .u64 b') ∧ w'.cell? ⟨w.heap.size, 4, none⟩ = some (.int .u64 c') ∧ w'.cell? ⟨w.heap.size, 5, none⟩ = some (.string p') ∧ w'.cell? ⟨w.heap.size + 1, 0, none⟩ = some (.int .u64 a) ∧ w'.cell? ⟨w.heap.size + 1, 1, none⟩ = some (.int .u64 b) ∧ w'.cell? ⟨w.heap.size + 1, 2, none⟩ = some (.int .u64 c) ∧ w'.cell? ⟨w.heap.size + 1, 3, none⟩ = some (.string p) ∧ w'.cell? ⟨w.heap.size + 1, 4, none⟩ = some (.string m)) (first | (refine keepTV ?_; exact B3.out; done) | (refine keepTV ?_; exact B1.out; done) | (refine keepTV (bt B1.out ?_); go_grown; done) | (refine keepTV ?_; go_grown; done))
    (first
      | (go_at_call 69; refine (term_any o k HO.out HK.out a' b' c' p' _).mono ?_; rintro e w1 ⟨⟨h1, hh, rfl, hB1⟩, hb1⟩; have B1 := hid (bt (Below.drew (Below.refl ((w.alloc (.cells (tcells o k a' b' c' p') 36)).alloc (.cells (scells a b c p m) 27)).heap.size _)) hb1); have N1 := hid hB1; clear hb1 hB1 hh)
      | (go_at_call 59; refine (version_any a b c p m _).mono ?_; rintro e w2 ⟨rfl, rfl⟩)
      | (go_at_call 80; refine (zz_1 _ h1 a b c p m a' b' c' p' ByteArray.empty _ _ _ _ pre r _ ?_ ?_ ?_ ?_ ?_).mono ?_; (exact ver_new _ _ _ _); (exact (N1.out.alloc _).alloc _); (have := N1.out.lt; omega); (exact HV.out.below (bt HW.out (bt B1.out (by go_grown)))); (exact HR.out _ _); rintro e w3 ⟨⟨er, rfl⟩, hb3⟩; have B3 := hid (bt (bt B1.out (by go_grown)) hb3); clear hb3))
  all_goals (go_wp2_with fail; go_ret; exact ⟨rfl, bt HW.out B3.out⟩)

set_option maxHeartbeats 800000 in
set_option maxRecDepth 100000 in
theorem aboveHolds_any (o k : Nat) (ho : o < 8) (hk : k ≤ 3) (a b c : Int) (p m : ByteArray) (a' b' c' : Int) (p' : ByteArray) (pre r : Bool) (w : World) (hv : Vars w)
    (hr : ∀ g h, OpIs 109 g h a b c p m a' b' c' p' ByteArray.empty (opS o) ByteArray.empty (k == 1) (decide (k < 3)) (k == 2) pre r) :
    Calls Tryd.prog 48 #[.agg (tcells o k a' b' c' p'), .agg (scells a b c p m), .bool pre] w fun e w' => e = .returned (.bool r) ∧ Below w.heap.size w w' := by
  have HR := hid hr
  have HV := hid hv
  have HO := hid ho
  have HK := hid hk
  clear hr hv ho hk
  have BW : Below w.heap.size w ((w.alloc (.cells (tcells o k a' b' c' p') 36)).alloc (.cells (scells a b c p m) 27)) := by go_grown
  have HW := hid BW
  clear BW
  have B0 := hid (Below.refl ((w.alloc (.cells (tcells o k a' b' c' p') 36)).alloc (.cells (scells a b c p m) 27)).heap.size ((w.alloc (.cells (tcells o k a' b' c' p') 36)).alloc (.cells (scells a b c p m) 27)))
  go_enter Tryd.func48, Tryd.ntmps48
  go_wp2_with fail
  go_region_held3 (fun w' => w'.cell? ⟨w.heap.size, 0, none⟩ = some (.int .i64 o) ∧ w'.cell? ⟨w.heap.size, 1, none⟩ = some (.int .i64 k) ∧ w'.cell? ⟨w.heap.size, 2, none⟩ = some (.int .u64 a') ∧ w'.cell? ⟨w.heap.size, 3, none⟩ = some (.int .u64 b') ∧ w'.cell? ⟨w.heap.size, 4, none⟩ = some (.int .u64 c') ∧ w'.cell? ⟨w.heap.size, 5, none⟩ = some (.string p') ∧ w'.cell? ⟨w.heap.size + 1, 0, none⟩ = some (.int .u64 a) ∧ w'.cell? ⟨w.heap.size + 1, 1, none⟩ = some (.int .u64 b) ∧ w'.cell? ⟨w.heap.size + 1, 2, none⟩ = some (.int .u64 c) ∧ w'.cell? ⟨w.heap.size + 1, 3, none⟩ = some (.string p) ∧ w'.cell? ⟨w.heap.size + 1, 4, none⟩ = some (.string m)) (first | (refine keepTV ?_; exact B3.out; done) | (refine keepTV ?_; exact B1.out; done) | (refine keepTV (bt B1.out ?_); go_grown; done) | (refine keepTV ?_; go_grown; done))
    (first
      | (go_at_call 69; refine (term_any o k HO.out HK.out a' b' c' p' _).mono ?_; rintro e w1 ⟨⟨h1, hh, rfl, hB1⟩, hb1⟩; have B1 := hid (bt (Below.drew (Below.refl ((w.alloc (.cells (tcells o k a' b' c' p') 36)).alloc (.cells (scells a b c p m) 27)).heap.size _)) hb1); have N1 := hid hB1; clear hb1 hB1 hh)
      | (go_at_call 59; refine (version_any a b c p m _).mono ?_; rintro e w2 ⟨rfl, rfl⟩)
      | (go_at_call 81; refine (zz_2 _ h1 a b c p m a' b' c' p' ByteArray.empty _ _ _ _ pre r _ ?_ ?_ ?_ ?_ ?_).mono ?_; (exact ver_new _ _ _ _); (exact (N1.out.alloc _).alloc _); (have := N1.out.lt; omega); (exact HV.out.below (bt HW.out (bt B1.out (by go_grown)))); (exact HR.out _ _); rintro e w3 ⟨⟨er, rfl⟩, hb3⟩; have B3 := hid (bt (bt B1.out (by go_grown)) hb3); clear hb3))
  all_goals (go_wp2_with fail; go_ret; exact ⟨rfl, bt HW.out B3.out⟩)

set_option maxHeartbeats 800000 in
set_option maxRecDepth 100000 in
theorem belowHolds_any (o k : Nat) (ho : o < 8) (hk : k ≤ 3) (a b c : Int) (p m : ByteArray) (a' b' c' : Int) (p' : ByteArray) (pre r : Bool) (w : World) (hv : Vars w)
    (hr : ∀ g h, OpIs 110 g h a b c p m a' b' c' p' ByteArray.empty (opS o) ByteArray.empty (k == 1) (decide (k < 3)) (k == 2) pre r) :
    Calls Tryd.prog 49 #[.agg (tcells o k a' b' c' p'), .agg (scells a b c p m), .bool pre] w fun e w' => e = .returned (.bool r) ∧ Below w.heap.size w w' := by
  have HR := hid hr
  have HV := hid hv
  have HO := hid ho
  have HK := hid hk
  clear hr hv ho hk
  have BW : Below w.heap.size w ((w.alloc (.cells (tcells o k a' b' c' p') 36)).alloc (.cells (scells a b c p m) 27)) := by go_grown
  have HW := hid BW
  clear BW
  have B0 := hid (Below.refl ((w.alloc (.cells (tcells o k a' b' c' p') 36)).alloc (.cells (scells a b c p m) 27)).heap.size ((w.alloc (.cells (tcells o k a' b' c' p') 36)).alloc (.cells (scells a b c p m) 27)))
  go_enter Tryd.func49, Tryd.ntmps49
  go_wp2_with fail
  go_region_held3 (fun w' => w'.cell? ⟨w.heap.size, 0, none⟩ = some (.int .i64 o) ∧ w'.cell? ⟨w.heap.size, 1, none⟩ = some (.int .i64 k) ∧ w'.cell? ⟨w.heap.size, 2, none⟩ = some (.int .u64 a') ∧ w'.cell? ⟨w.heap.size, 3, none⟩ = some (.int .u64 b') ∧ w'.cell? ⟨w.heap.size, 4, none⟩ = some (.int .u64 c') ∧ w'.cell? ⟨w.heap.size, 5, none⟩ = some (.string p') ∧ w'.cell? ⟨w.heap.size + 1, 0, none⟩ = some (.int .u64 a) ∧ w'.cell? ⟨w.heap.size + 1, 1, none⟩ = some (.int .u64 b) ∧ w'.cell? ⟨w.heap.size + 1, 2, none⟩ = some (.int .u64 c) ∧ w'.cell? ⟨w.heap.size + 1, 3, none⟩ = some (.string p) ∧ w'.cell? ⟨w.heap.size + 1, 4, none⟩ = some (.string m)) (first | (refine keepTV ?_; exact B3.out; done) | (refine keepTV ?_; exact B1.out; done) | (refine keepTV (bt B1.out ?_); go_grown; done) | (refine keepTV ?_; go_grown; done))
    (first
      | (go_at_call 69; refine (term_any o k HO.out HK.out a' b' c' p' _).mono ?_; rintro e w1 ⟨⟨h1, hh, rfl, hB1⟩, hb1⟩; have B1 := hid (bt (Below.drew (Below.refl ((w.alloc (.cells (tcells o k a' b' c' p') 36)).alloc (.cells (scells a b c p m) 27)).heap.size _)) hb1); have N1 := hid hB1; clear hb1 hB1 hh)
      | (go_at_call 59; refine (version_any a b c p m _).mono ?_; rintro e w2 ⟨rfl, rfl⟩)
      | (go_at_call 82; refine (zz_3 _ h1 a b c p m a' b' c' p' ByteArray.empty _ _ _ _ pre r _ ?_ ?_ ?_ ?_ ?_).mono ?_; (exact ver_new _ _ _ _); (exact (N1.out.alloc _).alloc _); (have := N1.out.lt; omega); (exact HV.out.below (bt HW.out (bt B1.out (by go_grown)))); (exact HR.out _ _); rintro e w3 ⟨⟨er, rfl⟩, hb3⟩; have B3 := hid (bt (bt B1.out (by go_grown)) hb3); clear hb3))
  all_goals (go_wp2_with fail; go_ret; exact ⟨rfl, bt HW.out B3.out⟩)

end Go.Proofs.YtmlbjcdildaldaaDoor
