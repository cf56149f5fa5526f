/- FnCronNextNoDay. Walked. (wip/gen/gen_lnoday.py) -/
import Derived.Test.YtfmagbkcfeckhaaDayU
set_option linter.unusedVariables false
set_option linter.unusedSimpArgs false
namespace Go.Proofs.Ytfmagbkcfeckhaa
open Go.RowKit

theorem noday_every (dl : Int) (S : Sets) (s n : Int) (w : World) :
    Calls Try.prog 6 #[.agg (schE true dl S), .agg (icells s n)] w fun e w' => e = .returned (.bool true) ∧ Below w.heap.size w w' := by
  have B := hid (show Below w.heap.size w ((w.alloc (.cells (schE true dl S) 24)).alloc (.cells (icells s n) 26)) by go_grown)
  have C := hid (fun X => case_true dl S s n X)
  go_enter Try.func6, Try.ntmps6
  go_wp2_with (go_at_call 8; refine (C.out _).mono ?_; rintro e w2 ⟨rfl, hb⟩; have B2 := hid (bt B.out hb); clear hb)
  go_ret
  exact ⟨rfl, B2.out⟩

set_option maxHeartbeats 3200000 in
set_option maxRecDepth 100000 in
theorem noday_core (dl : Int) (S : Sets) (s n : Int) (w : World) (hS : setsAll S) :
    Calls Try.prog 6 #[.agg (schCells dl S), .agg (icells s n)] w fun e w' => e = .returned (.bool true) ∧ Below w.heap.size w w' := by
  have z1 : (w.alloc (.cells (schCells dl S) 24)).heap.size = w.heap.size + 1 := by simp
  have B := hid (show Below w.heap.size w ((w.alloc (.cells (schCells dl S) 24)).alloc (.cells (icells s n) 26)) by go_grown)
  have KS := hid ((Blk.new w 24 (schCells dl S)).alloc (.cells (icells s n) 26))
  have KT := hid (Blk.new (w.alloc (.cells (schCells dl S) 24)) 26 (icells s n))
  rw [z1] at KT
  have C := hid (fun X => case_false dl S s n X)
  clear z1
  by_cases hg : goodT s n
  · obtain ⟨x, b, ha⟩ := ans_ex S s 0 (by have := hg.1; omega) (by have := hg.2.1; omega)
    have CU := hid (fun X => cutc_any X)
    have CI := hid (fun X => impl_utc dl S s n x b X hS hg ha)
    have CN := hid (fun X => none_utc dl S s n x b X hS hg ha)
    have HA := hid ha
    have HG := hid hg
    have HS := hid hS
    clear ha hg hS
    go_enter Try.func6, Try.ntmps6
    go_upto_region 1 with fail
    generalize ((w.alloc (.cells (schCells dl S) 24)).alloc (.cells (icells s n) 26)) = w1 at B KS KT ⊢
    have c0 := KS.out.cell 0
    have c1 := KS.out.cell 1
    have c2 := KS.out.cell 2
    have c3 := KS.out.cell 3
    have c4 := KS.out.cell 4
    have c5 := KS.out.cell 5
    have c6 := KS.out.cell 6
    have c7 := KS.out.cell 7
    have t0 := KT.out.cell 0
    have t1 := KT.out.cell 1
    go_upto_region 3 with (first
      | (go_at_call 8; refine (C.out _).mono ?_; rintro e w2 ⟨⟨b', rfl, hg'⟩, hb⟩; have B2 := hid (bt B.out hb); have KS2 := hid (KS.out.below hb); have KT2 := hid (KT.out.below hb); clear hb c0 c1 c2 c3 c4 c5 c6 c7 t0 t1; clear hg'; rcases b' with _ | _))
    · go_wp2_with fail
      go_ret
      exact ⟨rfl, B2.out⟩
    go_cut [5, 6] (fun pv bv wx => ∃ g, pv = .pointer (some ⟨g, 0, none⟩) ∧ bv = .bool b ∧ Blk wx g 26 (icells x 0) ∧ w2.heap.size ≤ g ∧ Below w2.heap.size w2 wx)
    case first =>
      go_region_held3 (fun w' => w'.cell? ⟨w.heap.size, 0, none⟩ = some (.bool false) ∧ w'.cell? ⟨w.heap.size, 1, none⟩ = some (.int .i64 dl) ∧ w'.cell? ⟨w.heap.size, 2, none⟩ = some (.int .u64 S.sec) ∧ w'.cell? ⟨w.heap.size, 3, none⟩ = some (.int .u64 S.min) ∧ w'.cell? ⟨w.heap.size, 4, none⟩ = some (.int .u64 S.hour) ∧ w'.cell? ⟨w.heap.size, 5, none⟩ = some (.int .u64 S.dom) ∧ w'.cell? ⟨w.heap.size, 6, none⟩ = some (.int .u64 S.month) ∧ w'.cell? ⟨w.heap.size, 7, none⟩ = some (.int .u64 S.dow) ∧ w'.cell? ⟨w.heap.size + 1, 0, none⟩ = some (.int .i64 s) ∧ w'.cell? ⟨w.heap.size + 1, 1, none⟩ = some (.int .i64 n))
        ((refine keepM KS2.out KT2.out ?_; first | (go_grown; done) | (exact H3.out; done) | (exact H3.out.alloc H3.out.size _; done) | (exact H2.out; done) | (exact H2.out.alloc H2.out.size _; done) | (exact below_set2 H3.out (Nat.le_refl _) _ _; done) | (exact below_set2 H3.out H2.out.size _ _; done) | (exact below_set2 (H3.out.alloc H3.out.size _) H3.out.size _ _; done)))
        (first
          | (go_at_call 10; refine (CU.out _).mono ?_; rintro e' w5 ⟨rfl, hb⟩; have H2 := hid (bt (X := w2) (by go_grown) hb); (first | have A := hid (Blk.below (w' := w5) (show Blk (w2.alloc (.cells (icells 0 0) 26)).drew w2.heap.size 26 (icells 0 0) from Blk.new w2 26 _) hb) | skip); clear hb)
          | (go_at_call 9; refine (CI.out _).mono ?_; rintro e' w6 ⟨rfl, hb⟩; have H3 := hid (bt (X := w2) (by first | exact H2.out | exact H2.out.alloc H2.out.size _) hb); (first | have A := hid (Blk.below (Blk.new _ _ _) hb) | have A := hid (Blk.below A.out hb) | skip); (first | (have a0 := A.out.cell 0; have a1 := A.out.cell 1; have f0 := A.out.frozen 0; have f1 := A.out.frozen 1) | skip); clear hb))
      all_goals
        go_wp2_with fail
        go_meet
        first
          | exact ⟨_, rfl, rfl, Blk.new w6 _ _, H3.out.size, H3.out.alloc H3.out.size _⟩
          | exact ⟨_, rfl, rfl, (A.out.set 0 _).set 1 _, H2.out.size, below_set2 H3.out H2.out.size _ _⟩
          | exact ⟨_, rfl, rfl, (A.out.set 0 _).set 1 _, Nat.le_refl _, below_set2 H3.out (Nat.le_refl _) _ _⟩
    case rest =>
      obtain ⟨g, rfl, rfl, hbk, hle, hbw⟩ := hcut
      have B3 := hid (bt B2.out hbw)
      have G3 := hid hbk
      have KS3 := hid (KS2.out.below hbw)
      have KT3 := hid (KT2.out.below hbw)
      clear hbk hle hbw
      rcases b with _ | _
      · go_upto_region 5 with fail
        have a0 : ∀ d os, (Go.Sort.grow (redrawn wc d) os).cell? ⟨w.heap.size, 0, none⟩ = some (.bool false) := fun d os => (blk_gr KS3.out d os).cell 0
        have a1 : ∀ d os, (Go.Sort.grow (redrawn wc d) os).cell? ⟨w.heap.size, 1, none⟩ = some (.int .i64 dl) := fun d os => (blk_gr KS3.out d os).cell 1
        have a2 : ∀ d os, (Go.Sort.grow (redrawn wc d) os).cell? ⟨w.heap.size, 2, none⟩ = some (.int .u64 S.sec) := fun d os => (blk_gr KS3.out d os).cell 2
        have a3 : ∀ d os, (Go.Sort.grow (redrawn wc d) os).cell? ⟨w.heap.size, 3, none⟩ = some (.int .u64 S.min) := fun d os => (blk_gr KS3.out d os).cell 3
        have a4 : ∀ d os, (Go.Sort.grow (redrawn wc d) os).cell? ⟨w.heap.size, 4, none⟩ = some (.int .u64 S.hour) := fun d os => (blk_gr KS3.out d os).cell 4
        have a5 : ∀ d os, (Go.Sort.grow (redrawn wc d) os).cell? ⟨w.heap.size, 5, none⟩ = some (.int .u64 S.dom) := fun d os => (blk_gr KS3.out d os).cell 5
        have a6 : ∀ d os, (Go.Sort.grow (redrawn wc d) os).cell? ⟨w.heap.size, 6, none⟩ = some (.int .u64 S.month) := fun d os => (blk_gr KS3.out d os).cell 6
        have a7 : ∀ d os, (Go.Sort.grow (redrawn wc d) os).cell? ⟨w.heap.size, 7, none⟩ = some (.int .u64 S.dow) := fun d os => (blk_gr KS3.out d os).cell 7
        have k0 : ∀ d os, (Go.Sort.grow (redrawn wc d) os).cell? ⟨w.heap.size + 1, 0, none⟩ = some (.int .i64 s) := fun d os => (blk_gr KT3.out d os).cell 0
        have k1 : ∀ d os, (Go.Sort.grow (redrawn wc d) os).cell? ⟨w.heap.size + 1, 1, none⟩ = some (.int .i64 n) := fun d os => (blk_gr KT3.out d os).cell 1
        have Q0 := hid (fun d os => Calls.regrown_of (CU.out (Go.Sort.grow (redrawn wc d) os)))
        have Q1 := hid (fun d os => Calls.regrown_of (CN.out (Go.Sort.grow (redrawn wc d) os)))
        refine wp_region_quiet_below (by kernel_rfl) (by kernel_rfl) ?_
        repeat (go_big_quiet_step ((first | (go_at_call 10; exact Q0.out _ _) | (go_at_call 11; exact Q1.out _ _) | fail)))
        refine wpQuiet_nil ?_
        intro _ hw'
        obtain ⟨⟨dq, osq⟩, hw''⟩ := hw'
        subst hw''
        have B7 := hid (bt B3.out (below_regrown wc dq osq))
        clear a0 a1 a2 a3 a4 a5 a6 a7 k0 k1 Q0 Q1
        generalize Go.Sort.grow (redrawn wc dq) osq = w7 at B7 ⊢
        go_wp2_with fail
        go_ret
        exact ⟨rfl, B7.out⟩
      · obtain ⟨x2, x3, x4, x5⟩ := ans_days HG.out.1 HG.out.2.1 HA.out
        have x1 := ans_gt HA.out
        have xs := HG.out.1
        have xt := HG.out.2.1
        obtain ⟨f, hf⟩ : ∃ f, s + 1 = f := ⟨_, rfl⟩
        have v1 : IntKind.i64.wrap (s + 1) = f := by rw [hf]; exact IntWalk.i64_in _ (by omega)
        have DL := hid (fun X => dayOf_any x X (by clear v1; omega) (by clear v1; omega))
        have D0 := hid (fun X => dayOf_any f X (by clear v1; omega) (by clear v1; omega))
        obtain ⟨L, hL⟩ : ∃ L, x / 86400 = L := ⟨_, rfl⟩
        obtain ⟨d0, hd0⟩ : ∃ d, f / 86400 = d := ⟨_, rfl⟩
        rw [hL] at DL x4
        rw [hd0] at D0
        have l1 : -719163 ≤ d0 := by clear v1; omega
        have l2 : d0 ≤ L := by clear v1; omega
        have l3 : L ≤ 2963000 := by clear v1; omega
        have X5 := hid (show ∀ d, d0 < d → d < L → dayIn S d = false from fun d q1 q2 => x5 d (by rw [hf, hd0]; exact q1) (by rw [hL]; exact q2))
        have X4 := hid x4
        have v2 : IntKind.i64.wrap (s + 221356800) = s + 221356800 := IntWalk.i64_in _ (by clear v1; omega)
        have v3 : IntKind.i64.wrap (d0 + 1) = d0 + 1 := IntWalk.i64_in _ (by clear v1 v2; omega)
        have u1 : ¬ x ≤ s := by clear v1 v2 v3; omega
        have u2 : ¬ s + 221356800 < x := by clear v1 v2 v3; omega
        clear x1 x2 x3 x4 x5 xs xt hf hL hd0
        have t0 := KT3.out.cell 0
        have t1 := KT3.out.cell 1
        have g0 := G3.out.cell 0
        have g1 := G3.out.cell 1
        go_wp2_with (first
          | (go_at_call_of 18 (Value.int .i64 x); refine (DL.out _).mono ?_; rintro e w4 ⟨rfl, hb⟩; have B4 := hid (bt B3.out hb); have KS4 := hid (KS3.out.below hb); have KT4 := hid (KT3.out.below hb); have G4 := hid (G3.out.below hb); clear hb t0 t1 g0 g1; have t0 := KT4.out.cell 0; have g0 := G4.out.cell 0)
          | (go_at_call_of 18 (Value.int .i64 f); refine (D0.out _).mono ?_; rintro e w5 ⟨rfl, hb⟩; have B5 := hid (bt B4.out hb); have KS5 := hid (KS4.out.below hb); clear hb t0 g0))
        clear B B2 B3 B4 KS KT KS2 KT2 KS3 KT3 G3 KS4 KT4 G4 v1 v2 v3 u1 u2
        go_loopw [8] (fun v wr => ∃ d : Int, v = .int .i64 d ∧ d0 < d ∧ d ≤ L + 1 ∧ Below w5.heap.size w5 wr) (fun v _ => (3000000 - intOf v).toNat)
        case atStart => exact ⟨d0 + 1, rfl, by omega, by omega, Below.refl _ _⟩
        case round =>
          obtain ⟨d, rfl, h1, h2, hb⟩ := hrel
          have BR := hid hb
          clear hb
          by_cases hc : d ≤ L
          · obtain ⟨q, hq⟩ : ∃ q, 86400 * d + 43200 = q := ⟨_, rfl⟩
            have CW := hid (fun X => whole_any q X)
            have eq : q / 86400 = d := by omega
            have CV := hid (fun X => civilU_any q 0 X (by omega) (by omega))
            have CDM := hid (fun X => cdmU_any S.dom S.dow q 0 X (by omega) (by omega) (by omega) (by omega))
            have E9 := hid (show d0 < d + 1 ∧ d + 1 ≤ L + 1 ∧ (3000000 - (d + 1)).toNat < (3000000 - d).toNat from ⟨by omega, by omega, by omega⟩)
            have zz := mP_bounds (day := d) (by omega) (by omega)
            have q0 : -9223372036854775808 ≤ 86400 * d ∧ 86400 * d ≤ 9223372036854775807 := by clear zz; omega
            have q5 : -9223372036854775808 ≤ 86400 * d + 43200 ∧ 86400 * d + 43200 ≤ 9223372036854775807 := by clear zz; omega
            have q6 : -9223372036854775808 ≤ d + 1 ∧ d + 1 ≤ 9223372036854775807 := by clear zz; omega
            have cases3 : (d ≠ L ∧ monOK S d = false) ∨ (d ≠ L ∧ monOK S d = true ∧ dayOK S d = false) ∨ (d = L ∧ monOK S d = true ∧ dayOK S d = true) := by
              by_cases e : d = L
              · have := X4.out
                unfold dayIn at this
                rw [Bool.and_eq_true, ← e] at this
                exact .inr (.inr ⟨e, this⟩)
              · have := X5.out d h1 (by clear zz; omega)
                unfold dayIn at this
                rw [Bool.and_eq_false_iff] at this
                rcases this with h | h
                · exact .inl ⟨e, h⟩
                · cases hm : monOK S d
                  · exact .inl ⟨e, rfl⟩
                  · exact .inr (.inl ⟨e, rfl, h⟩)
            obtain ⟨M, hM⟩ : ∃ M : Nat, mP d = M := Int.eq_ofNat_of_zero_le (Int.le_trans (by decide) zz.1)
            have m12 : M ≤ 12 := Int.ofNat_le.1 (hM ▸ zz.2.1)
            have hm4 : 0 ≤ S.month ∧ S.month < 18446744073709551616 := HS.out 4 (by clear zz hM; omega)
            have KB := shr_bit S.month M hm4.1 hm4.2 (Nat.lt_of_le_of_lt m12 (by decide))
            have mo : monOK S d = hasB S.month M := by unfold monOK; rw [hM, Int.toNat_natCast]
            rw [← mo] at KB
            have KB' := hid KB
            rw [eq] at CV CDM
            rw [hM] at CV
            obtain ⟨Y, hY⟩ : ∃ Y, yP d = Y := ⟨_, rfl⟩
            obtain ⟨D, hD⟩ : ∃ Y, dP d = Y := ⟨_, rfl⟩
            obtain ⟨H, hH⟩ : ∃ Y, q % 86400 / 3600 = Y := ⟨_, rfl⟩
            obtain ⟨Mi, hMi⟩ : ∃ Y, q % 3600 / 60 = Y := ⟨_, rfl⟩
            obtain ⟨Se, hSe⟩ : ∃ Y, q % 60 = Y := ⟨_, rfl⟩
            obtain ⟨W, hW⟩ : ∃ Y : Int, ((wdN d : Nat) : Int) = Y := ⟨_, rfl⟩
            have dk : dmB S.dom S.dow (mdN (ydN (absD d))) (wdN d) = dayOK S d := rfl
            rw [dk] at CDM
            rw [hY, hD, hH, hMi, hSe, hW] at CV
            have hfm := fun X => field_month Y M D H Mi Se 0 W X
            have M0 : (0 : Int) ≤ (M : Nat) := Int.natCast_nonneg _
            have hmin : min M 64 = M := Nat.min_eq_left (Nat.le_trans m12 (by decide))
            have M63 : M < 63 := Nat.lt_of_le_of_lt m12 (by decide)
            have M64 : M ≤ 64 := Nat.le_trans m12 (by decide)
            have v1 : IntKind.i64.wrap (86400 * d) = 86400 * d := IntWalk.i64_in _ q0
            have v2 : IntKind.i64.wrap (86400 * d + 43200) = q := by rw [← hq]; exact IntWalk.i64_in _ q5
            have v3 : IntKind.i64.wrap (d + 1) = d + 1 := IntWalk.i64_in _ q6
            clear hq eq zz q0 q5 q6 hM m12 hm4 KB mo hY hD hH hMi hSe hW dk h1 h2
            rcases cases3 with ⟨e1, e2⟩ | ⟨e1, e2, e3⟩ | ⟨e1, e2, e3⟩
            · have hk := KB'.out
              rw [e2] at hk
              have hne : (d == L) = false := beq_eq_false_iff_ne.2 e1
              clear e1 e2
              go_upto_region 13 with (go_at_call 19; refine (CW.out _).mono ?_; rintro e w6 ⟨rfl, hb⟩; have B6 := hid (bt BR.out hb); clear hb)
              have K7 := hid ((KS5.out.below B6.out).alloc (.cells (icells q 0) 26))
              have N7 := hid (Blk.new w6 26 (icells q 0))
              have B7 := hid (show Below w5.heap.size w5 (w6.alloc (.cells (icells q 0) 26)) from bt B6.out (by go_grown))
              generalize (w6.alloc (.cells (icells q 0) 26)) = w7 at K7 N7 B7 ⊢
              obtain ⟨g7, hg7⟩ : ∃ g, w6.heap.size = g := ⟨_, rfl⟩
              rw [hg7] at N7 ⊢
              clear hg7
              have a0 : ∀ d os, (Go.Sort.grow (redrawn w7 d) os).cell? ⟨w.heap.size, 0, none⟩ = some (.bool false) := fun d os => (blk_gr K7.out d os).cell 0
              have a1 : ∀ d os, (Go.Sort.grow (redrawn w7 d) os).cell? ⟨w.heap.size, 1, none⟩ = some (.int .i64 dl) := fun d os => (blk_gr K7.out d os).cell 1
              have a2 : ∀ d os, (Go.Sort.grow (redrawn w7 d) os).cell? ⟨w.heap.size, 2, none⟩ = some (.int .u64 S.sec) := fun d os => (blk_gr K7.out d os).cell 2
              have a3 : ∀ d os, (Go.Sort.grow (redrawn w7 d) os).cell? ⟨w.heap.size, 3, none⟩ = some (.int .u64 S.min) := fun d os => (blk_gr K7.out d os).cell 3
              have a4 : ∀ d os, (Go.Sort.grow (redrawn w7 d) os).cell? ⟨w.heap.size, 4, none⟩ = some (.int .u64 S.hour) := fun d os => (blk_gr K7.out d os).cell 4
              have a5 : ∀ d os, (Go.Sort.grow (redrawn w7 d) os).cell? ⟨w.heap.size, 5, none⟩ = some (.int .u64 S.dom) := fun d os => (blk_gr K7.out d os).cell 5
              have a6 : ∀ d os, (Go.Sort.grow (redrawn w7 d) os).cell? ⟨w.heap.size, 6, none⟩ = some (.int .u64 S.month) := fun d os => (blk_gr K7.out d os).cell 6
              have a7 : ∀ d os, (Go.Sort.grow (redrawn w7 d) os).cell? ⟨w.heap.size, 7, none⟩ = some (.int .u64 S.dow) := fun d os => (blk_gr K7.out d os).cell 7
              have k0 : ∀ d os, (Go.Sort.grow (redrawn w7 d) os).cell? ⟨g7, 0, none⟩ = some (.int .i64 q) := fun d os => (blk_gr N7.out d os).cell 0
              have k1 : ∀ d os, (Go.Sort.grow (redrawn w7 d) os).cell? ⟨g7, 1, none⟩ = some (.int .i64 0) := fun d os => (blk_gr N7.out d os).cell 1
              have Q0 := hid (fun d os => Calls.regrown_of (CU.out (Go.Sort.grow (redrawn w7 d) os)))
              have Q1 := hid (fun d os => Calls.regrown_of (CV.out (Go.Sort.grow (redrawn w7 d) os)))
              have Q2 := hid (fun d os => Calls.regrown_of (CDM.out (Go.Sort.grow (redrawn w7 d) os)))
              refine wp_region_quiet_below (by kernel_rfl) (by kernel_rfl) ?_
              repeat (go_big_quiet_step ((first | (go_at_call 10; exact Q0.out _ _) | (go_at_call 12; exact Q1.out _ _) | (go_at_call 20; exact Q2.out _ _) | fail)))
              refine wpQuiet_nil ?_
              intro _ hw'
              obtain ⟨⟨dq, osq⟩, hw''⟩ := hw'
              subst hw''
              have B8 := hid (bt B7.out (below_regrown w7 dq osq))
              clear a0 a1 a2 a3 a4 a5 a6 a7 k0 k1 Q0 Q1 Q2
              generalize Go.Sort.grow (redrawn w7 dq) osq = w8 at B8 ⊢
              go_wp2_with fail
              exact ⟨⟨_, rfl, E9.out.1, E9.out.2.1, B8.out⟩, E9.out.2.2⟩
            · have hk := KB'.out.trans e2
              rw [e3] at CDM
              have hne : (d == L) = false := beq_eq_false_iff_ne.2 e1
              clear e1 e2 e3
              go_upto_region 13 with (go_at_call 19; refine (CW.out _).mono ?_; rintro e w6 ⟨rfl, hb⟩; have B6 := hid (bt BR.out hb); clear hb)
              have K7 := hid ((KS5.out.below B6.out).alloc (.cells (icells q 0) 26))
              have N7 := hid (Blk.new w6 26 (icells q 0))
              have B7 := hid (show Below w5.heap.size w5 (w6.alloc (.cells (icells q 0) 26)) from bt B6.out (by go_grown))
              generalize (w6.alloc (.cells (icells q 0) 26)) = w7 at K7 N7 B7 ⊢
              obtain ⟨g7, hg7⟩ : ∃ g, w6.heap.size = g := ⟨_, rfl⟩
              rw [hg7] at N7 ⊢
              clear hg7
              have a0 : ∀ d os, (Go.Sort.grow (redrawn w7 d) os).cell? ⟨w.heap.size, 0, none⟩ = some (.bool false) := fun d os => (blk_gr K7.out d os).cell 0
              have a1 : ∀ d os, (Go.Sort.grow (redrawn w7 d) os).cell? ⟨w.heap.size, 1, none⟩ = some (.int .i64 dl) := fun d os => (blk_gr K7.out d os).cell 1
              have a2 : ∀ d os, (Go.Sort.grow (redrawn w7 d) os).cell? ⟨w.heap.size, 2, none⟩ = some (.int .u64 S.sec) := fun d os => (blk_gr K7.out d os).cell 2
              have a3 : ∀ d os, (Go.Sort.grow (redrawn w7 d) os).cell? ⟨w.heap.size, 3, none⟩ = some (.int .u64 S.min) := fun d os => (blk_gr K7.out d os).cell 3
              have a4 : ∀ d os, (Go.Sort.grow (redrawn w7 d) os).cell? ⟨w.heap.size, 4, none⟩ = some (.int .u64 S.hour) := fun d os => (blk_gr K7.out d os).cell 4
              have a5 : ∀ d os, (Go.Sort.grow (redrawn w7 d) os).cell? ⟨w.heap.size, 5, none⟩ = some (.int .u64 S.dom) := fun d os => (blk_gr K7.out d os).cell 5
              have a6 : ∀ d os, (Go.Sort.grow (redrawn w7 d) os).cell? ⟨w.heap.size, 6, none⟩ = some (.int .u64 S.month) := fun d os => (blk_gr K7.out d os).cell 6
              have a7 : ∀ d os, (Go.Sort.grow (redrawn w7 d) os).cell? ⟨w.heap.size, 7, none⟩ = some (.int .u64 S.dow) := fun d os => (blk_gr K7.out d os).cell 7
              have k0 : ∀ d os, (Go.Sort.grow (redrawn w7 d) os).cell? ⟨g7, 0, none⟩ = some (.int .i64 q) := fun d os => (blk_gr N7.out d os).cell 0
              have k1 : ∀ d os, (Go.Sort.grow (redrawn w7 d) os).cell? ⟨g7, 1, none⟩ = some (.int .i64 0) := fun d os => (blk_gr N7.out d os).cell 1
              have Q0 := hid (fun d os => Calls.regrown_of (CU.out (Go.Sort.grow (redrawn w7 d) os)))
              have Q1 := hid (fun d os => Calls.regrown_of (CV.out (Go.Sort.grow (redrawn w7 d) os)))
              have Q2 := hid (fun d os => Calls.regrown_of (CDM.out (Go.Sort.grow (redrawn w7 d) os)))
              refine wp_region_quiet_below (by kernel_rfl) (by kernel_rfl) ?_
              repeat (go_big_quiet_step ((first | (go_at_call 10; exact Q0.out _ _) | (go_at_call 12; exact Q1.out _ _) | (go_at_call 20; exact Q2.out _ _) | fail)))
              refine wpQuiet_nil ?_
              intro _ hw'
              obtain ⟨⟨dq, osq⟩, hw''⟩ := hw'
              subst hw''
              have B8 := hid (bt B7.out (below_regrown w7 dq osq))
              clear a0 a1 a2 a3 a4 a5 a6 a7 k0 k1 Q0 Q1 Q2
              generalize Go.Sort.grow (redrawn w7 dq) osq = w8 at B8 ⊢
              go_wp2_with fail
              exact ⟨⟨_, rfl, E9.out.1, E9.out.2.1, B8.out⟩, E9.out.2.2⟩
            · have hk := KB'.out.trans e2
              rw [e3] at CDM
              subst e1
              clear e2 e3
              go_upto_region 13 with (go_at_call 19; refine (CW.out _).mono ?_; rintro e w6 ⟨rfl, hb⟩; have B6 := hid (bt BR.out hb); clear hb)
              have K7 := hid ((KS5.out.below B6.out).alloc (.cells (icells q 0) 26))
              have N7 := hid (Blk.new w6 26 (icells q 0))
              have B7 := hid (show Below w5.heap.size w5 (w6.alloc (.cells (icells q 0) 26)) from bt B6.out (by go_grown))
              generalize (w6.alloc (.cells (icells q 0) 26)) = w7 at K7 N7 B7 ⊢
              obtain ⟨g7, hg7⟩ : ∃ g, w6.heap.size = g := ⟨_, rfl⟩
              rw [hg7] at N7 ⊢
              clear hg7
              have a0 : ∀ d os, (Go.Sort.grow (redrawn w7 d) os).cell? ⟨w.heap.size, 0, none⟩ = some (.bool false) := fun d os => (blk_gr K7.out d os).cell 0
              have a1 : ∀ d os, (Go.Sort.grow (redrawn w7 d) os).cell? ⟨w.heap.size, 1, none⟩ = some (.int .i64 dl) := fun d os => (blk_gr K7.out d os).cell 1
              have a2 : ∀ d os, (Go.Sort.grow (redrawn w7 d) os).cell? ⟨w.heap.size, 2, none⟩ = some (.int .u64 S.sec) := fun d os => (blk_gr K7.out d os).cell 2
              have a3 : ∀ d os, (Go.Sort.grow (redrawn w7 d) os).cell? ⟨w.heap.size, 3, none⟩ = some (.int .u64 S.min) := fun d os => (blk_gr K7.out d os).cell 3
              have a4 : ∀ d os, (Go.Sort.grow (redrawn w7 d) os).cell? ⟨w.heap.size, 4, none⟩ = some (.int .u64 S.hour) := fun d os => (blk_gr K7.out d os).cell 4
              have a5 : ∀ d os, (Go.Sort.grow (redrawn w7 d) os).cell? ⟨w.heap.size, 5, none⟩ = some (.int .u64 S.dom) := fun d os => (blk_gr K7.out d os).cell 5
              have a6 : ∀ d os, (Go.Sort.grow (redrawn w7 d) os).cell? ⟨w.heap.size, 6, none⟩ = some (.int .u64 S.month) := fun d os => (blk_gr K7.out d os).cell 6
              have a7 : ∀ d os, (Go.Sort.grow (redrawn w7 d) os).cell? ⟨w.heap.size, 7, none⟩ = some (.int .u64 S.dow) := fun d os => (blk_gr K7.out d os).cell 7
              have k0 : ∀ d os, (Go.Sort.grow (redrawn w7 d) os).cell? ⟨g7, 0, none⟩ = some (.int .i64 q) := fun d os => (blk_gr N7.out d os).cell 0
              have k1 : ∀ d os, (Go.Sort.grow (redrawn w7 d) os).cell? ⟨g7, 1, none⟩ = some (.int .i64 0) := fun d os => (blk_gr N7.out d os).cell 1
              have Q0 := hid (fun d os => Calls.regrown_of (CU.out (Go.Sort.grow (redrawn w7 d) os)))
              have Q1 := hid (fun d os => Calls.regrown_of (CV.out (Go.Sort.grow (redrawn w7 d) os)))
              have Q2 := hid (fun d os => Calls.regrown_of (CDM.out (Go.Sort.grow (redrawn w7 d) os)))
              refine wp_region_quiet_below (by kernel_rfl) (by kernel_rfl) ?_
              repeat (go_big_quiet_step ((first | (go_at_call 10; exact Q0.out _ _) | (go_at_call 12; exact Q1.out _ _) | (go_at_call 20; exact Q2.out _ _) | fail)))
              refine wpQuiet_nil ?_
              intro _ hw'
              obtain ⟨⟨dq, osq⟩, hw''⟩ := hw'
              subst hw''
              have B8 := hid (bt B7.out (below_regrown w7 dq osq))
              clear a0 a1 a2 a3 a4 a5 a6 a7 k0 k1 Q0 Q1 Q2
              generalize Go.Sort.grow (redrawn w7 dq) osq = w8 at B8 ⊢
              go_wp2_with fail
              exact ⟨⟨_, rfl, E9.out.1, E9.out.2.1, B8.out⟩, E9.out.2.2⟩
          · go_wp2_with fail
            go_ret
            exact ⟨rfl, bt B5.out BR.out⟩
  · have HN := hid (show ∀ b : Bool, (b = true → goodT s n) → b = false from fun b h => by
      cases b
      · rfl
      · exact absurd (h rfl) hg)
    go_enter Try.func6, Try.ntmps6
    go_upto_region 1 with fail
    generalize ((w.alloc (.cells (schCells dl S) 24)).alloc (.cells (icells s n) 26)) = w1 at B KS KT ⊢
    have c0 := KS.out.cell 0
    have c1 := KS.out.cell 1
    have c2 := KS.out.cell 2
    have c3 := KS.out.cell 3
    have c4 := KS.out.cell 4
    have c5 := KS.out.cell 5
    have c6 := KS.out.cell 6
    have c7 := KS.out.cell 7
    have t0 := KT.out.cell 0
    have t1 := KT.out.cell 1
    go_wp2_with (go_at_call 8; refine (C.out _).mono ?_; rintro e w2 ⟨⟨b', rfl, hg'⟩, hb⟩; have B2 := hid (bt B.out hb); have KS2 := hid (KS.out.below hb); have KT2 := hid (KT.out.below hb); clear hb c0 c1 c2 c3 c4 c5 c6 c7 t0 t1; obtain rfl := HN.out b' hg'; clear hg')
    go_ret
    exact ⟨rfl, B2.out⟩
theorem fnCronNextNoDay_walk (e : Bool) (dl a0 a1 a2 a3 a4 a5 s n : Int) (w : World) (_ : (Lit.int .i64 dl).wf = true) (h0 : (Lit.int .u64 a0).wf = true) (h1 : (Lit.int .u64 a1).wf = true) (h2 : (Lit.int .u64 a2).wf = true) (h3 : (Lit.int .u64 a3).wf = true) (h4 : (Lit.int .u64 a4).wf = true) (h5 : (Lit.int .u64 a5).wf = true) (_ : (Lit.int .i64 s).wf = true) (_ : (Lit.int .i64 n).wf = true) :
    Calls Try.prog 6 #[.agg #[.bool e, .int .i64 dl, .int .u64 a0, .int .u64 a1, .int .u64 a2, .int .u64 a3, .int .u64 a4, .int .u64 a5], .agg #[.int .i64 s, .int .i64 n]] w fun e w' => e = .returned (.bool true) ∧ Below w.heap.size w w' := by
  cases e
  · exact noday_core dl ⟨a0, a1, a2, a3, a4, a5⟩ s n w (setsAll_wf h0 h1 h2 h3 h4 h5)
  · exact noday_every dl ⟨a0, a1, a2, a3, a4, a5⟩ s n w
end Go.Proofs.Ytfmagbkcfeckhaa
