/- The reference's day after a date and day of the week, in the plain calendar. Walked. -/
import Derived.Test.YtfmagbkcfeckhaaDateX
import Derived.Test.YtfmagbkcfeckhaaNextM
import Derived.Test.YtfmagbkcfeckhaaQTail
import Derived.Test.YtfmagbkcfeckhaaTimeK
import Derived.Deep.DeepCutAuto
set_option linter.unusedVariables false
set_option linter.unusedSimpArgs false
namespace Go.Proofs.Ytfmagbkcfeckhaa
open Go.RowKit

theorem weekdayN_any (day : Int) (w : World) (h1 : -720000 ≤ day) (h2 : day ≤ 3000000) : Calls Try.prog 44 #[.int .i64 day] w fun e w' => e = .returned (.int .i64 (wdN day : Nat)) ∧ w = w' := by
  refine (weekday_any day w h1 h2).mono ?_
  rintro e w' ⟨rfl, h⟩
  refine ⟨?_, h⟩
  have : day + 4 - 7 * ((day + 4) / 7) = ((wdN day : Nat) : Int) := by
    unfold wdN absD
    omega
  rw [this]

set_option maxHeartbeats 3200000 in
set_option maxRecDepth 100000 in
theorem tom_core (Y M D m Y' M' D' : Int) (w : World) (hm : md Y M = m) (y1 : -100000 ≤ Y) (y2 : Y ≤ 100000) (d1 : 0 ≤ M) (d2 : M ≤ 12) (d3 : 0 ≤ D) (d4 : D ≤ 31)
    (hc : (D < m ∧ Y' = Y ∧ M' = M ∧ D' = D + 1) ∨ (¬ D < m ∧ M < 12 ∧ Y' = Y ∧ M' = M + 1 ∧ D' = 1) ∨ (¬ D < m ∧ ¬ M < 12 ∧ Y' = Y + 1 ∧ M' = 1 ∧ D' = 1)) :
    Calls Try.prog 47 #[.agg #[.int .i64 Y, .int .i64 M, .int .i64 D]] w fun e w' => e = .returned (.agg #[.int .i64 Y', .int .i64 M', .int .i64 D']) ∧ Below w.heap.size w w' := by
  have s1 : (w.alloc (.cells #[.int .i64 Y, .int .i64 M, .int .i64 D] 72)).heap.size = w.heap.size + 1 := by simp
  have B := hid (show Below w.heap.size w ((w.alloc (.cells #[.int .i64 Y, .int .i64 M, .int .i64 D] 72)).alloc (.cells #[.int .i64 0, .int .i64 0, .int .i64 0] 72)) by go_grown)
  have K := hid ((Blk.new w 72 #[.int .i64 Y, .int .i64 M, .int .i64 D]).alloc (.cells #[.int .i64 0, .int .i64 0, .int .i64 0] 72))
  have R := hid (Blk.new (w.alloc (.cells #[.int .i64 Y, .int .i64 M, .int .i64 D] 72)) 72 #[.int .i64 0, .int .i64 0, .int .i64 0])
  rw [s1] at R
  have CM := hid (fun X => md_any Y M X)
  rw [hm] at CM
  clear s1 hm
  have v1 : IntKind.i64.wrap (D + 1) = D + 1 := IntWalk.i64_in _ (by omega)
  have v2 : IntKind.i64.wrap (M + 1) = M + 1 := IntWalk.i64_in _ (by omega)
  have v3 : IntKind.i64.wrap (Y + 1) = Y + 1 := IntWalk.i64_in _ (by omega)
  have HC := hid hc
  clear hc y1 y2 d1 d2 d3 d4
  go_enter Try.func47, Try.ntmps47
  go_upto_region 1 with fail
  generalize ((w.alloc (.cells #[.int .i64 Y, .int .i64 M, .int .i64 D] 72)).alloc (.cells #[.int .i64 0, .int .i64 0, .int .i64 0] 72)) = w1 at B K R ⊢
  have k0 : ∀ d os, (Go.Sort.grow (redrawn w1 d) os).cell? ⟨w.heap.size, 0, none⟩ = some (.int .i64 Y) := fun d os => (blk_gr K.out d os).cell 0
  have k1 : ∀ d os, (Go.Sort.grow (redrawn w1 d) os).cell? ⟨w.heap.size, 1, none⟩ = some (.int .i64 M) := fun d os => (blk_gr K.out d os).cell 1
  have k2 : ∀ d os, (Go.Sort.grow (redrawn w1 d) os).cell? ⟨w.heap.size, 2, none⟩ = some (.int .i64 D) := fun d os => (blk_gr K.out d os).cell 2
  have C1 := hid (fun d os => Calls.regrown_of ((CM.out (Go.Sort.grow (redrawn w1 d) os)).mono fun e w' (h : _ ∧ _) => ⟨h.1, h.2 ▸ Below.refl _ _⟩))
  refine wp_region_quiet_below (by kernel_rfl) (by kernel_rfl) ?_
  repeat (go_big_quiet_step ((first | (go_at_call 46; exact C1.out _ _) | fail)))
  refine wpQuiet_nil ?_
  intro _ hw'
  obtain ⟨⟨dq, osq⟩, hw''⟩ := hw'
  subst hw''
  have B2 := hid (bt B.out (below_regrown w1 dq osq))
  have K2 := hid (blk_gr K.out dq osq)
  have R2 := hid (blk_gr R.out dq osq)
  clear k0 k1 k2 C1 B K R
  generalize Go.Sort.grow (redrawn w1 dq) osq = w3 at B2 K2 R2 ⊢
  have c0 := K2.out.cell 0
  have c1 := K2.out.cell 1
  have c2 := K2.out.cell 2
  have t0 := hid (there_b R2.out 3 (Nat.le_refl 3))
  rcases HC.out with ⟨h1, e1, e2, e3⟩ | ⟨h1, h2, e1, e2, e3⟩ | ⟨h1, h2, e1, e2, e3⟩
  · have E1 := hid e1
    have E2 := hid e2
    have E3 := hid e3
    clear e1 e2 e3 HC
    go_wp2_with (refine wpList_store_mid rfl 72 (.tmp 2) (.tmp 18) rfl (w.heap.size + 1) 0 #[.int .i64 Y, .int .i64 M, .int .i64 (D + 1)] (by rfl) (by rfl) t0.out (by kernel_rfl) (by simp [Value.oneCell']) ?_; have R3' := hid (set_b3 R2.out (.int .i64 Y) (.int .i64 M) (.int .i64 (D + 1))); have B3' := hid (below_b3 B2.out (Nat.le_succ _) (.int .i64 Y) (.int .i64 M) (.int .i64 (D + 1))); generalize w3.setCells (w.heap.size + 1) 0 #[Value.int .i64 Y, .int .i64 M, .int .i64 (D + 1)].toList = w4 at R3' B3' ⊢)
    exact bodyPost_ret (results_cell_row rfl _ _ (w.heap.size + 1) 72 _ (0, 0) _ rfl R3'.out Try.underlying72 rfl (by kernel_rfl)) rfl ⟨by rw [E1.out, E2.out, E3.out], B3'.out⟩
  · have E1 := hid e1
    have E2 := hid e2
    have E3 := hid e3
    clear e1 e2 e3 HC
    go_wp2_with (refine wpList_store_mid rfl 72 (.tmp 2) (.tmp 27) rfl (w.heap.size + 1) 0 #[.int .i64 Y, .int .i64 (M + 1), .int .i64 1] (by rfl) (by rfl) t0.out (by kernel_rfl) (by simp [Value.oneCell']) ?_; have R3' := hid (set_b3 R2.out (.int .i64 Y) (.int .i64 (M + 1)) (.int .i64 1)); have B3' := hid (below_b3 B2.out (Nat.le_succ _) (.int .i64 Y) (.int .i64 (M + 1)) (.int .i64 1)); generalize w3.setCells (w.heap.size + 1) 0 #[Value.int .i64 Y, .int .i64 (M + 1), .int .i64 1].toList = w4 at R3' B3' ⊢)
    exact bodyPost_ret (results_cell_row rfl _ _ (w.heap.size + 1) 72 _ (0, 0) _ rfl R3'.out Try.underlying72 rfl (by kernel_rfl)) rfl ⟨by rw [E1.out, E2.out, E3.out], B3'.out⟩
  · have E1 := hid e1
    have E2 := hid e2
    have E3 := hid e3
    clear e1 e2 e3 HC
    go_wp2_with (refine wpList_store_mid rfl 72 (.tmp 2) (.tmp 31) rfl (w.heap.size + 1) 0 #[.int .i64 (Y + 1), .int .i64 1, .int .i64 1] (by rfl) (by rfl) t0.out (by kernel_rfl) (by simp [Value.oneCell']) ?_; have R3' := hid (set_b3 R2.out (.int .i64 (Y + 1)) (.int .i64 1) (.int .i64 1)); have B3' := hid (below_b3 B2.out (Nat.le_succ _) (.int .i64 (Y + 1)) (.int .i64 1) (.int .i64 1)); generalize w3.setCells (w.heap.size + 1) 0 #[Value.int .i64 (Y + 1), .int .i64 1, .int .i64 1].toList = w4 at R3' B3' ⊢)
    exact bodyPost_ret (results_cell_row rfl _ _ (w.heap.size + 1) 72 _ (0, 0) _ rfl R3'.out Try.underlying72 rfl (by kernel_rfl)) rfl ⟨by rw [E1.out, E2.out, E3.out], B3'.out⟩

/-- The cells of a day's date. -/
abbrev dcells (day : Int) : Array Value := #[.int .i64 (yP day), .int .i64 (mP day), .int .i64 (dP day)]
theorem tomorrow_any (day : Int) (w : World) (h1 : -720000 ≤ day) (h2 : day ≤ 3000000) : Calls Try.prog 47 #[.agg (dcells day)] w fun e w' => e = .returned (.agg (dcells (day + 1))) ∧ Below w.heap.size w w' := by
  obtain ⟨b1, b2, b3, b4⟩ := mP_bounds (day := day) (by omega) (by omega)
  have b5 := (md_pos (yP day) (mP day)).2
  have b6 := year_top (day := day) (by omega) (by omega)
  have b7 := day_year (day := day) (y := 0) (by omega) (by omega)
  have y1 : -100000 ≤ yP day := by
    have := abs_date day (by omega) (by omega)
    have h := dayOf_year this.2
    have e : day = dayOf (yP day) (mP day) (dP day) := this.1
    have h2 := h.2
    rw [← e] at h2
    unfold ys at h2
    omega
  refine tom_core (yP day) (mP day) (dP day) _ _ _ _ w rfl y1 (by omega) (by omega) b2 (by omega) (by omega) ?_
  rcases day_next (day := day) (by omega) (by omega) with ⟨g1, g2, g3, g4⟩ | ⟨g1, g2, g3, g4, g5⟩ | ⟨g1, g2, g3, g4, g5⟩
  · exact .inl ⟨g1, g2, g3, g4⟩
  · exact .inr (.inl ⟨by omega, g2, g3, g4, g5⟩)
  · exact .inr (.inr ⟨by omega, by omega, g3, g4, g5⟩)
end Go.Proofs.Ytfmagbkcfeckhaa
