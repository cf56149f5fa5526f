/- cronEachDay, cronMoved. Walked. -/
import Derived.Test.YtfmagbkcfeckhaaWeekB
set_option linter.unusedVariables false
set_option linter.unusedSimpArgs false
namespace Go.Proofs.Ytfmagbkcfeckhaa
open Go.RowKit

theorem set_8 {w : World} {g : Nat} {t : TypeId} {x0 x1 x2 x3 x4 x5 x6 x7 : Value} (h : Blk w g t #[x0, x1, x2, x3, x4, x5, x6, x7]) (y0 y1 y2 y3 y4 y5 y6 y7 : Value) : Blk (w.setCells g 0 (#[y0, y1, y2, y3, y4, y5, y6, y7] : Array Value).toList) g t #[y0, y1, y2, y3, y4, y5, y6, y7] := by
  have hk := (((((((h.set 0 y0).set 1 y1).set 2 y2).set 3 y3).set 4 y4).set 5 y5).set 6 y6).set 7 y7
  simp only [List.setIfInBounds_toArray, List.set_cons_zero, List.set_cons_succ] at hk
  exact hk
theorem weekS_ok {a0 a1 a2 a3 a4 a5 : Int} (h : setsAll ⟨a0, a1, a2, a3, a4, a5⟩) : setsAll (weekS a0 a1 a2 a5) := fun k hk => by
  rcases (by omega : k = 0 ∨ k = 1 ∨ k = 2 ∨ k = 3 ∨ k = 4 ∨ k = 5) with rfl | rfl | rfl | rfl | rfl | rfl
  · exact h 0 (by omega)
  · exact h 1 (by omega)
  · exact h 2 (by omega)
  · show 0 ≤ allDom ∧ allDom < 18446744073709551616
    decide +kernel
  · show 0 ≤ allMon ∧ allMon < 18446744073709551616
    decide +kernel
  · exact h 5 (by omega)

set_option maxHeartbeats 3200000 in
set_option maxRecDepth 100000 in
theorem eachDay_any (e : Bool) (dl a0 a1 a2 a3 a4 a5 : Int) (w : World) : Calls Try.prog 21 #[.agg (schX e dl a0 a1 a2 a3 a4 a5)] w fun e' w' => e' = .returned (.agg (schX e dl a0 a1 a2 allDom allMon allDow)) ∧ Below w.heap.size w w' := by
  have z1 : (w.alloc (.cells (schX e dl a0 a1 a2 a3 a4 a5) 24)).heap.size = w.heap.size + 1 := by simp
  have B := hid (show Below w.heap.size w ((w.alloc (.cells (schX e dl a0 a1 a2 a3 a4 a5) 24)).alloc (.cells (schX false 0 0 0 0 0 0 0) 24)) by go_grown)
  have K := hid ((Blk.new w 24 (schX e dl a0 a1 a2 a3 a4 a5)).alloc (.cells (schX false 0 0 0 0 0 0 0) 24))
  have R := hid (Blk.new (w.alloc (.cells (schX e dl a0 a1 a2 a3 a4 a5) 24)) 24 (schX false 0 0 0 0 0 0 0))
  rw [z1] at R
  clear z1
  have C3 := hid (show ∀ X, Calls Try.prog 37 #[.int .i64 3] X fun e w' => e = .returned (.int .u64 allDom) ∧ Below X.heap.size X w' from fun X => cronAll3 X)
  have C4 := hid (show ∀ X, Calls Try.prog 37 #[.int .i64 4] X fun e w' => e = .returned (.int .u64 allMon) ∧ Below X.heap.size X w' from fun X => cronAll4 X)
  have C5 := hid (show ∀ X, Calls Try.prog 37 #[.int .i64 5] X fun e w' => e = .returned (.int .u64 allDow) ∧ Below X.heap.size X w' from fun X => cronAll5 X)
  generalize allDom = x3 at C3 ⊢
  generalize allMon = x4 at C4 ⊢
  generalize allDow = x5 at C5 ⊢
  go_enter Try.func21, Try.ntmps21
  go_upto_region 1 with fail
  generalize ((w.alloc (.cells (schX e dl a0 a1 a2 a3 a4 a5) 24)).alloc (.cells (schX false 0 0 0 0 0 0 0) 24)) = w1 at B K R ⊢
  go_upto_region 2 with (first
    | (go_at_call_of 37 (Value.int .i64 4); refine (C4.out _).mono ?_; rintro e' w2 ⟨rfl, hb⟩; have K2 := hid (K.out.below hb); have R2 := hid (R.out.below hb); have B2 := hid (bt B.out hb); clear hb)
    | (go_at_call_of 37 (Value.int .i64 3); refine (C3.out _).mono ?_; rintro e' w3 ⟨rfl, hb⟩; have K3 := hid (K2.out.below hb); have R3 := hid (R2.out.below hb); have B3 := hid (bt B2.out hb); clear hb)
    | (go_at_call_of 37 (Value.int .i64 5); refine (C5.out _).mono ?_; rintro e' w4 ⟨rfl, hb⟩; have K4 := hid (K3.out.below hb); have R4 := hid (R3.out.below hb); have B4 := hid (bt B3.out hb); clear hb; have c5 := K4.out.cell 5; have c6 := K4.out.cell 6; have c7 := K4.out.cell 7; have f5 := K4.out.frozen 5; have f6 := K4.out.frozen 6; have f7 := K4.out.frozen 7))
  have K5 := hid (show Blk (((w4.setCell ⟨w.heap.size, 6, none⟩ (.int .u64 x4)).setCell ⟨w.heap.size, 5, none⟩ (.int .u64 x3)).setCell ⟨w.heap.size, 7, none⟩ (.int .u64 x5)) w.heap.size 24 (schX e dl a0 a1 a2 x3 x4 x5) from ((K4.out.set 6 (.int .u64 x4)).set 5 (.int .u64 x3)).set 7 (.int .u64 x5))
  have hne : w.heap.size + 1 ≠ w.heap.size := by omega
  have R5 := hid (((R4.out.other hne 6 (.int .u64 x4)).other hne 5 (.int .u64 x3)).other hne 7 (.int .u64 x5))
  have B5 := hid (below_set (below_set (below_set B4.out (Nat.le_refl _) 6 (.int .u64 x4)) (Nat.le_refl _) 5 (.int .u64 x3)) (Nat.le_refl _) 7 (.int .u64 x5))
  clear c5 c6 c7 f5 f6 f7 hne
  generalize (((w4.setCell ⟨w.heap.size, 6, none⟩ (.int .u64 x4)).setCell ⟨w.heap.size, 5, none⟩ (.int .u64 x3)).setCell ⟨w.heap.size, 7, none⟩ (.int .u64 x5)) = w5 at K5 R5 B5 ⊢
  have c0 := K5.out.cell 0
  have c1 := K5.out.cell 1
  have c2 := K5.out.cell 2
  have c3 := K5.out.cell 3
  have c4 := K5.out.cell 4
  have c5 := K5.out.cell 5
  have c6 := K5.out.cell 6
  have c7 := K5.out.cell 7
  go_wp2_with (refine wpList_store_mid rfl 24 (.tmp 2) (.tmp 9) rfl (w.heap.size + 1) 0 (schX e dl a0 a1 a2 x3 x4 x5) rfl rfl (there_b R5.out 8 (Nat.le_refl 8)) (by kernel_rfl) (by simp [Value.oneCell']) ?_; have R6 := hid (set_8 R5.out (.bool e) (.int .i64 dl) (.int .u64 a0) (.int .u64 a1) (.int .u64 a2) (.int .u64 x3) (.int .u64 x4) (.int .u64 x5)); have B6 := hid (below_setCells (g := w.heap.size + 1) (Nat.le_succ _) (schX e dl a0 a1 a2 x3 x4 x5).toList 0 w5 B5.out); generalize (w5.setCells (w.heap.size + 1) 0 (schX e dl a0 a1 a2 x3 x4 x5).toList) = w6 at R6 B6 ⊢)
  exact bodyPost_ret (results_cell_row rfl _ _ (w.heap.size + 1) 24 _ (0, 0) _ rfl R6.out Try.underlying24 rfl (by kernel_rfl)) rfl ⟨rfl, B6.out⟩

theorem moved_any (x x' d : Int) (b : Bool) (w : World) (h : b = true → x' = x + d ∧ -9223372036854775808 ≤ x + d ∧ x + d ≤ 9223372036854775807) : Calls Try.prog 22 #[.agg (icells x 0), .bool b, .agg (icells x' 0), .bool b, .int .i64 d] w fun e w' => e = .returned (.bool true) ∧ Below w.heap.size w w' := by
  have B := hid (show Below w.heap.size w ((w.alloc (.cells (icells x 0) 26)).alloc (.cells (icells x' 0) 26)) by go_grown)
  cases b
  · clear h
    go_enter Try.func22, Try.ntmps22
    go_wp2_with fail
    go_ret
    exact ⟨rfl, B.out⟩
  · obtain ⟨h1, h2, h3⟩ := h rfl
    have v1 : IntKind.i64.wrap (x + d) = x' := by rw [h1]; exact IntWalk.i64_in _ ⟨h2, h3⟩
    have v2 : wrap64 (x + d) = x' := by rw [h1]; unfold wrap64; omega
    clear h h1 h2 h3
    go_enter Try.func22, Try.ntmps22
    go_wp2_with fail
    go_ret
    exact ⟨rfl, B.out⟩
end Go.Proofs.Ytfmagbkcfeckhaa
