/- The reference's clock, exactly. Walked. (wip/gen/gen_clockx.py) -/
import Derived.Test.YtfmagbkcfeckhaaLawB
set_option linter.unusedVariables false
set_option linter.unusedSimpArgs false
namespace Go.Proofs.Ytfmagbkcfeckhaa
open Go.RowKit

set_option maxHeartbeats 3200000 in
set_option maxRecDepth 100000 in
theorem clockX_any (l n : Int) (w : World) (h1 : -62135769600 ≤ l) (h2 : l ≤ 259000000000) : Calls Try.prog 29 #[.int .i64 l, .int .i64 n] w fun e w' => e = .returned (.agg (vcells8 (yP (l / 86400)) (mP (l / 86400)) (dP (l / 86400)) (l % 86400 / 3600) (l % 3600 / 60) (l % 60) n (wdN (l / 86400) : Nat))) ∧ Below w.heap.size w w' := by
  have CF := hid (fun w => fd_86400 l w (by omega) (by omega))
  obtain ⟨day, hday⟩ : ∃ day, l / 86400 = day := ⟨_, rfl⟩
  rw [hday] at CF ⊢
  have d1 : -720000 ≤ day := by omega
  have d2 : day ≤ 3000000 := by omega
  obtain ⟨r, hr⟩ : ∃ r, l - 86400 * day = r := ⟨_, rfl⟩
  have r1 : 0 ≤ r := by omega
  have r2 : r < 86400 := by omega
  have e1 : wrap64 r = r := by unfold wrap64; omega
  have CD := hid (fun w => dateP_any day w d1 d2)
  have CW := hid (fun w => weekdayN_any day w d1 d2)
  obtain ⟨wd, hwd⟩ : ∃ wd, ((wdN day : Nat) : Int) = wd := ⟨_, rfl⟩
  rw [hwd] at CW ⊢
  obtain ⟨Y, hY⟩ : ∃ Y, yP day = Y := ⟨_, rfl⟩
  obtain ⟨M, hM⟩ : ∃ M, mP day = M := ⟨_, rfl⟩
  obtain ⟨D, hD⟩ : ∃ D, dP day = D := ⟨_, rfl⟩
  rw [hY, hM, hD] at CD ⊢
  clear hY hM hD hwd
  have B := hid (show Below w.heap.size w (w.alloc (.cells (vcells8 0 0 0 0 0 0 0 0) 38)) by go_grown)
  have R := hid (Blk.new w 38 (vcells8 0 0 0 0 0 0 0 0))
  obtain ⟨h, hh⟩ : ∃ h, r / 3600 = h := ⟨_, rfl⟩
  obtain ⟨q, hq⟩ : ∃ q, r / 60 = q := ⟨_, rfl⟩
  obtain ⟨m, hm⟩ : ∃ m, q % 60 = m := ⟨_, rfl⟩
  obtain ⟨s, hs⟩ : ∃ s, r % 60 = s := ⟨_, rfl⟩
  rw [show l % 86400 / 3600 = h by omega, show l % 3600 / 60 = m by omega, show l % 60 = s by omega]
  have t1 : r.tdiv 3600 = h := by rw [Int.tdiv_eq_ediv_of_nonneg r1]; exact hh
  have t2 : r.tdiv 60 = q := by rw [Int.tdiv_eq_ediv_of_nonneg r1]; exact hq
  have q0 : 0 ≤ q := by omega
  have q9 : q ≤ 86400 := by omega
  have h9 : 0 ≤ h := by omega
  have h8 : h ≤ 86400 := by omega
  have t3 : q.tmod 60 = m := by rw [Int.tmod_eq_emod_of_nonneg q0]; exact hm
  have t4 : r.tmod 60 = s := by rw [Int.tmod_eq_emod_of_nonneg r1]; exact hs
  have v1 : wrap64 h = h := by unfold wrap64; omega
  have v2 : wrap64 q = q := by unfold wrap64; omega
  have v3 : IntKind.i64.wrap h = h := IntWalk.i64_in _ (by omega)
  have v4 : IntKind.i64.wrap q = q := IntWalk.i64_in _ (by omega)
  clear hday
  go_enter Try.func29, Try.ntmps29
  go_wp2_with (go_at_call 32; refine (CF.out _).mono ?_; rintro e w' ⟨rfl, rfl⟩)
  generalize (w.alloc (.cells (vcells8 0 0 0 0 0 0 0 0) 38)) = w1 at B R ⊢
  go_at_call 31
  refine (CD.out _).mono ?_
  rintro e w2 ⟨rfl, hb⟩
  have B2 := hid (bt B.out hb)
  have R2 := hid (R.out.below hb)
  clear hb B R
  go_wp2_with fail
  have Q := hid (Blk.new w2 72 #[.int .i64 Y, .int .i64 M, .int .i64 D])
  have R3 := hid (R2.out.alloc (.cells #[.int .i64 Y, .int .i64 M, .int .i64 D] 72))
  have B3 := hid (B2.out.alloc B2.out.size (.cells #[.int .i64 Y, .int .i64 M, .int .i64 D] 72))
  generalize (w2.alloc (.cells #[.int .i64 Y, .int .i64 M, .int .i64 D] 72)) = w3 at Q R3 B3 ⊢
  have k0 : ∀ d os, (Go.Sort.grow (redrawn w3 d) os).cell? ⟨w2.heap.size, 0, none⟩ = some (.int .i64 Y) := fun d os => (blk_gr Q.out d os).cell 0
  have k1 : ∀ d os, (Go.Sort.grow (redrawn w3 d) os).cell? ⟨w2.heap.size, 1, none⟩ = some (.int .i64 M) := fun d os => (blk_gr Q.out d os).cell 1
  have k2 : ∀ d os, (Go.Sort.grow (redrawn w3 d) os).cell? ⟨w2.heap.size, 2, none⟩ = some (.int .i64 D) := fun d os => (blk_gr Q.out d os).cell 2
  have C1 := hid (fun d os => Calls.regrown_of ((CW.out (Go.Sort.grow (redrawn w3 d) os)).mono fun e w' (h : _ ∧ _) => ⟨h.1, h.2 ▸ Below.refl _ _⟩))
  refine wp_region_tail_below 17 (by kernel_rfl) (by kernel_rfl) ?_
  show wpQuiet _ _ _ _ [_, _, _, _, _, _, _, _, _, _, _, _, _, _, _, _, _] _
  repeat (go_big_quiet_step ((first | (go_at_call 44; exact C1.out _ _) | fail)))
  refine wpQuiet_nil ?_
  intro _ hw'
  obtain ⟨⟨dq, osq⟩, hw''⟩ := hw'
  subst hw''
  have R4 := hid (blk_gr R3.out dq osq)
  have B4 := hid (bt B3.out (below_regrown w3 dq osq))
  clear k0 k1 k2 C1
  generalize Go.Sort.grow (redrawn w3 dq) osq = w4 at R4 B4 ⊢
  show wpList _ _ _ [_] _ _
  have t0 : w4.there w.heap.size 0 8 := there_b R4.out 8 (Nat.le_refl 8)
  have R5 := hid (set_b8 R4.out Y M D h m s n wd)
  have B5 := hid (below_b8 B4.out (Nat.le_refl _) Y M D h m s n wd)
  refine wpList_store_mid rfl 38 (.tmp 4) (.tmp 32) rfl w.heap.size 0 (vcells8 Y M D h m s n wd) (by rfl) (by rfl) t0 (by kernel_rfl) (by simp [Value.oneCell']) ?_
  generalize w4.setCells w.heap.size 0 (vcells8 Y M D h m s n wd).toList = w5 at R5 B5 ⊢
  refine wpList_nil ?_
  go_wp2_with fail
  exact bodyPost_ret (results_cell_row rfl _ _ w.heap.size 38 _ (0, 0) _ rfl R5.out Try.underlying38 rfl (by kernel_rfl)) rfl ⟨rfl, B5.out⟩

set_option maxHeartbeats 3200000 in
set_option maxRecDepth 100000 in
theorem civilU_any (s n : Int) (w : World) (g1 : -62135596800 ≤ s) (g2 : s ≤ 258000000000) :
    Calls Try.prog 12 #[.agg (icells s n), .agg (zcells none none none none 0 0 0 0 0 0 0 0)] w fun e w' => e = .returned (.agg (vcells8 (yP (s / 86400)) (mP (s / 86400)) (dP (s / 86400)) (s % 86400 / 3600) (s % 3600 / 60) (s % 60) n (wdN (s / 86400) : Nat))) ∧ Below w.heap.size w w' := by
  have s1 : (w.alloc (.cells (icells s n) 26)).heap.size = w.heap.size + 1 := by simp
  have s2 : ((w.alloc (.cells (icells s n) 26)).alloc (.cells (zcells none none none none 0 0 0 0 0 0 0 0) 34)).heap.size = w.heap.size + 1 + 1 := by simp
  have B0 : Below w.heap.size w (((w.alloc (.cells (icells s n) 26)).alloc (.cells (zcells none none none none 0 0 0 0 0 0 0 0) 34)).alloc (.cells (vcells8 0 0 0 0 0 0 0 0) 38)) := by go_grown
  have B := hid B0
  have K5 := hid (((Blk.new w 26 (icells s n)).alloc (.cells (zcells none none none none 0 0 0 0 0 0 0 0) 34)).alloc (.cells (vcells8 0 0 0 0 0 0 0 0) 38))
  have K6 := hid ((Blk.new (w.alloc (.cells (icells s n) 26)) 34 (zcells none none none none 0 0 0 0 0 0 0 0)).alloc (.cells (vcells8 0 0 0 0 0 0 0 0) 38))
  have R := hid (Blk.new ((w.alloc (.cells (icells s n) 26)).alloc (.cells (zcells none none none none 0 0 0 0 0 0 0 0) 34)) 38 (vcells8 0 0 0 0 0 0 0 0))
  rw [s1] at K6
  rw [s2] at R
  obtain ⟨off, hoff⟩ : ∃ off : Int, off = 0 := ⟨0, rfl⟩
  have CC := hid (fun X => clockX_any (s + off) n X (by omega) (by omega))
  have e1 : wrap64 (s + off) = s + off := by unfold wrap64; omega
  have e2 : IntKind.i64.wrap (s + off) = s + off := IntWalk.i64_in _ (by omega)
  have es : s + off = s := by omega
  rw [es] at CC e1 e2
  have es' : IntKind.i64.wrap (s + off) = s := by rw [es]; exact e2
  have es2 : wrap64 (s + off) = s := by rw [es]; exact e1
  clear es e1 e2
  obtain ⟨Y, hY⟩ : ∃ Y, yP (s / 86400) = Y := ⟨_, rfl⟩
  obtain ⟨M, hM⟩ : ∃ M, mP (s / 86400) = M := ⟨_, rfl⟩
  obtain ⟨D', hD⟩ : ∃ D, dP (s / 86400) = D := ⟨_, rfl⟩
  obtain ⟨h', hh⟩ : ∃ h, s % 86400 / 3600 = h := ⟨_, rfl⟩
  obtain ⟨m', hm⟩ : ∃ m, s % 3600 / 60 = m := ⟨_, rfl⟩
  obtain ⟨s', hs⟩ : ∃ m, s % 60 = m := ⟨_, rfl⟩
  obtain ⟨d', hd⟩ : ∃ m : Int, ((wdN (s / 86400) : Nat) : Int) = m := ⟨_, rfl⟩
  rw [hY, hM, hD, hh, hm, hs, hd] at CC ⊢
  clear hY hM hD hh hm hs hd
  go_enter Try.func12, Try.ntmps12
  go_upto_region 1 with fail
  generalize (((w.alloc (.cells (icells s n) 26)).alloc (.cells (zcells none none none none 0 0 0 0 0 0 0 0) 34)).alloc (.cells (vcells8 0 0 0 0 0 0 0 0) 38)) = w1 at B K5 K6 R ⊢
  have CO := hid (fun d' os => Calls.regrown_of ((zc_utc 0 0 0 0 w (Go.Sort.grow (redrawn w1 d') os) (B.out.trans ((below_regrown w1 d' os).mono B.out.size)) s (by omega) (by omega)).1))
  rw [← hoff] at CO
  have a0 : ∀ d os, (Go.Sort.grow (redrawn w1 d) os).cell? ⟨w.heap.size, 0, none⟩ = some (.int .i64 s) := fun d os => (blk_gr K5.out d os).cell 0
  have a1 : ∀ d os, (Go.Sort.grow (redrawn w1 d) os).cell? ⟨w.heap.size, 1, none⟩ = some (.int .i64 n) := fun d os => (blk_gr K5.out d os).cell 1
  have k0 : ∀ d' os, (Go.Sort.grow (redrawn w1 d') os).cell? ⟨w.heap.size + 1, 0, none⟩ = some (.slice none 0 0) := fun d' os => (blk_gr K6.out d' os).cell 0
  have k1 : ∀ d' os, (Go.Sort.grow (redrawn w1 d') os).cell? ⟨w.heap.size + 1, 1, none⟩ = some (.slice none 0 0) := fun d' os => (blk_gr K6.out d' os).cell 1
  have k2 : ∀ d' os, (Go.Sort.grow (redrawn w1 d') os).cell? ⟨w.heap.size + 1, 2, none⟩ = some (.slice none 0 0) := fun d' os => (blk_gr K6.out d' os).cell 2
  have k3 : ∀ d' os, (Go.Sort.grow (redrawn w1 d') os).cell? ⟨w.heap.size + 1, 3, none⟩ = some (.slice none 0 0) := fun d' os => (blk_gr K6.out d' os).cell 3
  clear B0 s1 s2 hoff g1 g2
  refine wp_region_tail_below 9 (by kernel_rfl) (by kernel_rfl) ?_
  show wpQuiet _ _ _ _ [_, _, _, _, _, _, _, _, _] _
  repeat (go_big_quiet_step ((first | (go_at_call 30; exact CO.out _ _) | fail)))
  refine wpQuiet_nil ?_
  intro _ hw'
  obtain ⟨⟨dq, osq⟩, hw''⟩ := hw'
  subst hw''
  have R4 := hid (blk_gr R.out dq osq)
  have B4 := hid (bt B.out (below_regrown w1 dq osq))
  clear a0 a1 k0 k1 k2 k3 CO
  generalize Go.Sort.grow (redrawn w1 dq) osq = w4 at R4 B4 ⊢
  show wpList _ _ _ [_, _] _ _
  go_wp2_with (first
    | (go_at_call 29; refine (CC.out _).mono ?_; rintro e w5 ⟨rfl, hb⟩; have R5 := hid (R4.out.below hb); have B5 := hid (bt B4.out hb); have t0 := hid (there_b R5.out 8 (Nat.le_refl 8)); clear hb)
    | (refine wpList_store_mid rfl 38 (.tmp 4) (.tmp 14) rfl (w.heap.size + 1 + 1) 0 (vcells8 Y M D' h' m' s' n d') (by rfl) (by rfl) t0.out (by kernel_rfl) (by simp [Value.oneCell']) ?_; have R6 := hid (set_b8 R5.out Y M D' h' m' s' n d'); have B6 := hid (below_b8 B5.out (Nat.le_add_right _ 2) Y M D' h' m' s' n d'); generalize w5.setCells (w.heap.size + 1 + 1) 0 (vcells8 Y M D' h' m' s' n d').toList = w6 at R6 B6 ⊢))
  exact bodyPost_ret (results_cell_row rfl _ _ (w.heap.size + 1 + 1) 38 _ (0, 0) _ rfl R6.out Try.underlying38 rfl (by kernel_rfl)) rfl ⟨rfl, B6.out⟩
end Go.Proofs.Ytfmagbkcfeckhaa
