/- FnCronNextInOrder. Walked. (wip/gen/gen_linorder.py) -/
import Derived.Test.YtfmagbkcfeckhaaLawB
set_option linter.unusedVariables false
set_option linter.unusedSimpArgs false
namespace Go.Proofs.Ytfmagbkcfeckhaa
open Go.RowKit

theorem inorder_every (dl : Int) (S : Sets) (s n s' n' : Int) (w : World) :
    Calls Try.prog 5 #[.agg (schE true dl S), .agg (icells s n), .agg (icells s' n')] w fun e w' => e = .returned (.bool true) ∧ Below w.heap.size w w' := by
  have B := hid (show Below w.heap.size w (((w.alloc (.cells (schE true dl S) 24)).alloc (.cells (icells s n) 26)).alloc (.cells (icells s' n') 26)) by go_grown)
  have C := hid (fun X => case_true dl S s n X)
  go_enter Try.func5, Try.ntmps5
  go_wp2_with (go_at_call 8; refine (C.out _).mono ?_; rintro e w2 ⟨rfl, hb⟩; have B2 := hid (bt B.out hb); clear hb)
  go_ret
  exact ⟨rfl, B2.out⟩

set_option maxHeartbeats 3200000 in
set_option maxRecDepth 100000 in
theorem inorder_core (dl : Int) (S : Sets) (s n s' n' : Int) (w : World) (hS : setsAll S) :
    Calls Try.prog 5 #[.agg (schCells dl S), .agg (icells s n), .agg (icells s' n')] w fun e w' => e = .returned (.bool true) ∧ Below w.heap.size w w' := by
  have z1 : (w.alloc (.cells (schCells dl S) 24)).heap.size = w.heap.size + 1 := by simp
  have z2 : ((w.alloc (.cells (schCells dl S) 24)).alloc (.cells (icells s n) 26)).heap.size = w.heap.size + 1 + 1 := by simp
  have B := hid (show Below w.heap.size w (((w.alloc (.cells (schCells dl S) 24)).alloc (.cells (icells s n) 26)).alloc (.cells (icells s' n') 26)) by go_grown)
  have KS := hid (((Blk.new w 24 (schCells dl S)).alloc (.cells (icells s n) 26)).alloc (.cells (icells s' n') 26))
  have KT := hid ((Blk.new (w.alloc (.cells (schCells dl S) 24)) 26 (icells s n)).alloc (.cells (icells s' n') 26))
  have KU := hid (Blk.new ((w.alloc (.cells (schCells dl S) 24)).alloc (.cells (icells s n) 26)) 26 (icells s' n'))
  rw [z1] at KT
  rw [z2] at KU
  have C := hid (fun X => case_false dl S s n X)
  have CG := hid (fun X => cronGood_any s' n' X)
  have CB := hid (fun a an b bn X => before_any a an b bn X)
  clear z1 z2
  by_cases hg : goodT s n
  · by_cases hg2 : goodT s' n'
    · obtain ⟨x, b, ha⟩ := ans_ex S s 0 (by have := hg.1; omega) (by have := hg.2.1; omega)
      obtain ⟨x', b2, ha2⟩ := ans_ex S s' 0 (by have := hg2.1; omega) (by have := hg2.2.1; omega)
      have CU := hid (fun X => cutc_any X)
      have CI := hid (fun X => impl_utc dl S s n x b X hS hg ha)
      have CI2 := hid (fun X => impl_utc dl S s' n' x' b2 X hS hg2 ha2)
      have CN := hid (fun X => none_utc dl S s n x b X hS hg ha)
      have CN2 := hid (fun X => none_utc dl S s' n' x' b2 X hS hg2 ha2)
      have HA := hid ha
      have HA2 := hid ha2
      clear ha ha2 hg hg2 hS
      obtain ⟨z, hz⟩ : ∃ z, befB s' n' s n = z := ⟨_, rfl⟩
      have HZ := hid hz
      clear hz
      go_enter Try.func5, Try.ntmps5
      go_upto_region 1 with fail
      generalize (((w.alloc (.cells (schCells dl S) 24)).alloc (.cells (icells s n) 26)).alloc (.cells (icells s' n') 26)) = w1 at B KS KT KU ⊢
      have c0 := KS.out.cell 0
      have c1 := KS.out.cell 1
      have c2 := KS.out.cell 2
      have c3 := KS.out.cell 3
      have c4 := KS.out.cell 4
      have c5 := KS.out.cell 5
      have c6 := KS.out.cell 6
      have c7 := KS.out.cell 7
      have t0 := KT.out.cell 0
      have t1 := KT.out.cell 1
      have u0 := KU.out.cell 0
      have u1 := KU.out.cell 1
      go_upto_region 3 with (first
        | (go_at_call 8; refine (C.out _).mono ?_; rintro e w2 ⟨⟨b', rfl, hg'⟩, hb⟩; have B2 := hid (bt B.out hb); have KS2 := hid (KS.out.below hb); have KT2 := hid (KT.out.below hb); have KU2 := hid (KU.out.below hb); clear hb c0 c1 c2 c3 c4 c5 c6 c7 t0 t1 u0 u1; have u0 := KU2.out.cell 0; have u1 := KU2.out.cell 1; have t0 := KT2.out.cell 0; have t1 := KT2.out.cell 1; clear hg'; rcases b' with _ | _)
        | (go_at_call 17; refine (CG.out _).mono ?_; rintro e w3 ⟨⟨b', rfl, hg'⟩, hb⟩; have B3 := hid (bt B2.out hb); have KS3 := hid (KS2.out.below hb); have KT3 := hid (KT2.out.below hb); have KU3 := hid (KU2.out.below hb); clear hb u0 u1 t0 t1; have u0 := KU3.out.cell 0; have u1 := KU3.out.cell 1; have t0 := KT3.out.cell 0; have t1 := KT3.out.cell 1; clear hg'; rcases b' with _ | _)
        | (go_at_call 13; refine (CB.out _ _ _ _ _).mono ?_; rintro e w4 ⟨rfl, hb⟩; have B4 := hid (bt B3.out hb); have KS4 := hid (KS3.out.below hb); have KT4 := hid (KT3.out.below hb); have KU4 := hid (KU3.out.below hb); clear hb u0 u1 t0 t1; rw [HZ.out]; rcases z with _ | _))
      · go_wp2_with fail
        go_ret
        exact ⟨rfl, B2.out⟩
      · go_wp2_with fail
        go_ret
        exact ⟨rfl, B3.out⟩
      rotate_left
      · go_wp2_with fail
        go_ret
        exact ⟨rfl, B4.out⟩
      clear B B2 B3 KS KT KU KS2 KT2 KU2 KS3 KT3 KU3 C CG
      go_cut [7, 8] (fun pv bv wx => ∃ g, pv = .pointer (some ⟨g, 0, none⟩) ∧ bv = .bool b ∧ Blk wx g 26 (icells x 0) ∧ w4.heap.size ≤ g ∧ Below w4.heap.size w4 wx)
      case first =>
        go_region_held3 (fun w' => w'.cell? ⟨w.heap.size, 0, none⟩ = some (.bool false) ∧ w'.cell? ⟨w.heap.size, 1, none⟩ = some (.int .i64 dl) ∧ w'.cell? ⟨w.heap.size, 2, none⟩ = some (.int .u64 S.sec) ∧ w'.cell? ⟨w.heap.size, 3, none⟩ = some (.int .u64 S.min) ∧ w'.cell? ⟨w.heap.size, 4, none⟩ = some (.int .u64 S.hour) ∧ w'.cell? ⟨w.heap.size, 5, none⟩ = some (.int .u64 S.dom) ∧ w'.cell? ⟨w.heap.size, 6, none⟩ = some (.int .u64 S.month) ∧ w'.cell? ⟨w.heap.size, 7, none⟩ = some (.int .u64 S.dow) ∧ w'.cell? ⟨w.heap.size + 1, 0, none⟩ = some (.int .i64 s) ∧ w'.cell? ⟨w.heap.size + 1, 1, none⟩ = some (.int .i64 n))
          ((refine keepM KS4.out KT4.out ?_; first | (go_grown; done) | (exact H3.out; done) | (exact H3.out.alloc H3.out.size _; done) | (exact H2.out; done) | (exact H2.out.alloc H2.out.size _; done) | (exact below_set2 H3.out (Nat.le_refl _) _ _; done) | (exact below_set2 H3.out H2.out.size _ _; done) | (exact below_set2 (H3.out.alloc H3.out.size _) H3.out.size _ _; done)))
          (first
            | (go_at_call 10; refine (CU.out _).mono ?_; rintro e' w5 ⟨rfl, hb⟩; have H2 := hid (bt (X := w4) (by go_grown) hb); (first | have A := hid (Blk.below (w' := w5) (show Blk (w4.alloc (.cells (icells 0 0) 26)).drew w4.heap.size 26 (icells 0 0) from Blk.new w4 26 _) hb) | skip); clear hb)
            | (go_at_call 9; refine (CI.out _).mono ?_; rintro e' w6 ⟨rfl, hb⟩; have H3 := hid (bt (X := w4) (by first | exact H2.out | exact H2.out.alloc H2.out.size _) hb); (first | have A := hid (Blk.below (Blk.new _ _ _) hb) | have A := hid (Blk.below A.out hb) | skip); (first | (have a0 := A.out.cell 0; have a1 := A.out.cell 1; have f0 := A.out.frozen 0; have f1 := A.out.frozen 1) | skip); clear hb))
        all_goals
          go_wp2_with fail
          go_meet
          first
            | exact ⟨_, rfl, rfl, Blk.new w6 _ _, H3.out.size, H3.out.alloc H3.out.size _⟩
            | exact ⟨_, rfl, rfl, (A.out.set 0 _).set 1 _, H2.out.size, below_set2 H3.out H2.out.size _ _⟩
            | exact ⟨_, rfl, rfl, (A.out.set 0 _).set 1 _, Nat.le_refl _, below_set2 H3.out (Nat.le_refl _) _ _⟩
      case rest =>
        obtain ⟨g, rfl, rfl, hbk, hle, hbw⟩ := hcut
        have B5 := hid (bt B4.out hbw)
        have G5 := hid hbk
        have KS5 := hid (KS4.out.below hbw)
        have KT5 := hid (KT4.out.below hbw)
        have KU5 := hid (KU4.out.below hbw)
        clear hbk hle hbw
        go_upto_region 4 with fail
        go_cut [9, 10] (fun pv bv wx => ∃ g, pv = .pointer (some ⟨g, 0, none⟩) ∧ bv = .bool b2 ∧ Blk wx g 26 (icells x' 0) ∧ wc.heap.size ≤ g ∧ Below wc.heap.size wc wx)
        case first =>
          go_region_held3 (fun w' => w'.cell? ⟨w.heap.size, 0, none⟩ = some (.bool false) ∧ w'.cell? ⟨w.heap.size, 1, none⟩ = some (.int .i64 dl) ∧ w'.cell? ⟨w.heap.size, 2, none⟩ = some (.int .u64 S.sec) ∧ w'.cell? ⟨w.heap.size, 3, none⟩ = some (.int .u64 S.min) ∧ w'.cell? ⟨w.heap.size, 4, none⟩ = some (.int .u64 S.hour) ∧ w'.cell? ⟨w.heap.size, 5, none⟩ = some (.int .u64 S.dom) ∧ w'.cell? ⟨w.heap.size, 6, none⟩ = some (.int .u64 S.month) ∧ w'.cell? ⟨w.heap.size, 7, none⟩ = some (.int .u64 S.dow) ∧ w'.cell? ⟨w.heap.size + 1 + 1, 0, none⟩ = some (.int .i64 s') ∧ w'.cell? ⟨w.heap.size + 1 + 1, 1, none⟩ = some (.int .i64 n'))
            ((refine keepM KS5.out KU5.out ?_; first | (go_grown; done) | (exact H3.out; done) | (exact H3.out.alloc H3.out.size _; done) | (exact H2.out; done) | (exact H2.out.alloc H2.out.size _; done) | (exact below_set2 H3.out (Nat.le_refl _) _ _; done) | (exact below_set2 H3.out H2.out.size _ _; done) | (exact below_set2 (H3.out.alloc H3.out.size _) H3.out.size _ _; done)))
            (first
              | (go_at_call 10; refine (CU.out _).mono ?_; rintro e' w5 ⟨rfl, hb⟩; have H2 := hid (bt (X := wc) (by go_grown) hb); (first | have A := hid (Blk.below (w' := w5) (show Blk (wc.alloc (.cells (icells 0 0) 26)).drew wc.heap.size 26 (icells 0 0) from Blk.new wc 26 _) hb) | skip); clear hb)
              | (go_at_call 9; refine (CI2.out _).mono ?_; rintro e' w6 ⟨rfl, hb⟩; have H3 := hid (bt (X := wc) (by first | exact H2.out | exact H2.out.alloc H2.out.size _) hb); (first | have A := hid (Blk.below (Blk.new _ _ _) hb) | have A := hid (Blk.below A.out hb) | skip); (first | (have a0 := A.out.cell 0; have a1 := A.out.cell 1; have f0 := A.out.frozen 0; have f1 := A.out.frozen 1) | skip); clear hb))
          all_goals
            go_wp2_with fail
            go_meet
            first
              | exact ⟨_, rfl, rfl, Blk.new w6 _ _, H3.out.size, H3.out.alloc H3.out.size _⟩
              | exact ⟨_, rfl, rfl, (A.out.set 0 _).set 1 _, H2.out.size, below_set2 H3.out H2.out.size _ _⟩
              | exact ⟨_, rfl, rfl, (A.out.set 0 _).set 1 _, Nat.le_refl _, below_set2 H3.out (Nat.le_refl _) _ _⟩
        case rest =>
          obtain ⟨g', rfl, rfl, hbk, hle, hbw⟩ := hcut
          have B6 := hid (bt B5.out hbw)
          have G6 := hid (G5.out.below hbw)
          have H6 := hid hbk
          have KS6 := hid (KS5.out.below hbw)
          have KT6 := hid (KT5.out.below hbw)
          have KU6 := hid (KU5.out.below hbw)
          clear hbk hle hbw
          rcases b with _ | _ <;> rcases b2 with _ | _
          · go_upto_region 6 with fail
            have a0 : ∀ d os, (Go.Sort.grow (redrawn wc d) os).cell? ⟨w.heap.size, 0, none⟩ = some (.bool false) := fun d os => (blk_gr KS6.out d os).cell 0
            have a1 : ∀ d os, (Go.Sort.grow (redrawn wc d) os).cell? ⟨w.heap.size, 1, none⟩ = some (.int .i64 dl) := fun d os => (blk_gr KS6.out d os).cell 1
            have a2 : ∀ d os, (Go.Sort.grow (redrawn wc d) os).cell? ⟨w.heap.size, 2, none⟩ = some (.int .u64 S.sec) := fun d os => (blk_gr KS6.out d os).cell 2
            have a3 : ∀ d os, (Go.Sort.grow (redrawn wc d) os).cell? ⟨w.heap.size, 3, none⟩ = some (.int .u64 S.min) := fun d os => (blk_gr KS6.out d os).cell 3
            have a4 : ∀ d os, (Go.Sort.grow (redrawn wc d) os).cell? ⟨w.heap.size, 4, none⟩ = some (.int .u64 S.hour) := fun d os => (blk_gr KS6.out d os).cell 4
            have a5 : ∀ d os, (Go.Sort.grow (redrawn wc d) os).cell? ⟨w.heap.size, 5, none⟩ = some (.int .u64 S.dom) := fun d os => (blk_gr KS6.out d os).cell 5
            have a6 : ∀ d os, (Go.Sort.grow (redrawn wc d) os).cell? ⟨w.heap.size, 6, none⟩ = some (.int .u64 S.month) := fun d os => (blk_gr KS6.out d os).cell 6
            have a7 : ∀ d os, (Go.Sort.grow (redrawn wc d) os).cell? ⟨w.heap.size, 7, none⟩ = some (.int .u64 S.dow) := fun d os => (blk_gr KS6.out d os).cell 7
            have k0 : ∀ d os, (Go.Sort.grow (redrawn wc d) os).cell? ⟨w.heap.size + 1, 0, none⟩ = some (.int .i64 s) := fun d os => (blk_gr KT6.out d os).cell 0
            have k1 : ∀ d os, (Go.Sort.grow (redrawn wc d) os).cell? ⟨w.heap.size + 1, 1, none⟩ = some (.int .i64 n) := fun d os => (blk_gr KT6.out d os).cell 1
            have m0 : ∀ d os, (Go.Sort.grow (redrawn wc d) os).cell? ⟨w.heap.size + 1 + 1, 0, none⟩ = some (.int .i64 s') := fun d os => (blk_gr KU6.out d os).cell 0
            have m1 : ∀ d os, (Go.Sort.grow (redrawn wc d) os).cell? ⟨w.heap.size + 1 + 1, 1, none⟩ = some (.int .i64 n') := fun d os => (blk_gr KU6.out d os).cell 1
            have Q0 := hid (fun d os => Calls.regrown_of (CU.out (Go.Sort.grow (redrawn wc d) os)))
            have Q1 := hid (fun d os => Calls.regrown_of (CN.out (Go.Sort.grow (redrawn wc d) os)))
            have Q2 := hid (fun d os => Calls.regrown_of (CN2.out (Go.Sort.grow (redrawn wc d) os)))
            refine wp_region_quiet_below (by kernel_rfl) (by kernel_rfl) ?_
            repeat (go_big_quiet_step ((first | (go_at_call 10; exact Q0.out _ _) | (go_at_call_of 11 (Value.agg #[Value.int .i64 s, Value.int .i64 n]); exact Q1.out _ _) | (go_at_call_of 11 (Value.agg #[Value.int .i64 s', Value.int .i64 n']); exact Q2.out _ _) | fail)))
            refine wpQuiet_nil ?_
            intro _ hw'
            obtain ⟨⟨dq, osq⟩, hw''⟩ := hw'
            subst hw''
            have B7 := hid (bt B6.out (below_regrown wc dq osq))
            clear a0 a1 a2 a3 a4 a5 a6 a7 k0 k1 m0 m1 Q0 Q1 Q2
            generalize Go.Sort.grow (redrawn wc dq) osq = w7 at B7 ⊢
            go_wp2_with fail
            go_ret
            exact ⟨rfl, B7.out⟩
          · go_upto_region 6 with fail
            have a0 : ∀ d os, (Go.Sort.grow (redrawn wc d) os).cell? ⟨w.heap.size, 0, none⟩ = some (.bool false) := fun d os => (blk_gr KS6.out d os).cell 0
            have a1 : ∀ d os, (Go.Sort.grow (redrawn wc d) os).cell? ⟨w.heap.size, 1, none⟩ = some (.int .i64 dl) := fun d os => (blk_gr KS6.out d os).cell 1
            have a2 : ∀ d os, (Go.Sort.grow (redrawn wc d) os).cell? ⟨w.heap.size, 2, none⟩ = some (.int .u64 S.sec) := fun d os => (blk_gr KS6.out d os).cell 2
            have a3 : ∀ d os, (Go.Sort.grow (redrawn wc d) os).cell? ⟨w.heap.size, 3, none⟩ = some (.int .u64 S.min) := fun d os => (blk_gr KS6.out d os).cell 3
            have a4 : ∀ d os, (Go.Sort.grow (redrawn wc d) os).cell? ⟨w.heap.size, 4, none⟩ = some (.int .u64 S.hour) := fun d os => (blk_gr KS6.out d os).cell 4
            have a5 : ∀ d os, (Go.Sort.grow (redrawn wc d) os).cell? ⟨w.heap.size, 5, none⟩ = some (.int .u64 S.dom) := fun d os => (blk_gr KS6.out d os).cell 5
            have a6 : ∀ d os, (Go.Sort.grow (redrawn wc d) os).cell? ⟨w.heap.size, 6, none⟩ = some (.int .u64 S.month) := fun d os => (blk_gr KS6.out d os).cell 6
            have a7 : ∀ d os, (Go.Sort.grow (redrawn wc d) os).cell? ⟨w.heap.size, 7, none⟩ = some (.int .u64 S.dow) := fun d os => (blk_gr KS6.out d os).cell 7
            have k0 : ∀ d os, (Go.Sort.grow (redrawn wc d) os).cell? ⟨w.heap.size + 1, 0, none⟩ = some (.int .i64 s) := fun d os => (blk_gr KT6.out d os).cell 0
            have k1 : ∀ d os, (Go.Sort.grow (redrawn wc d) os).cell? ⟨w.heap.size + 1, 1, none⟩ = some (.int .i64 n) := fun d os => (blk_gr KT6.out d os).cell 1
            have m0 : ∀ d os, (Go.Sort.grow (redrawn wc d) os).cell? ⟨w.heap.size + 1 + 1, 0, none⟩ = some (.int .i64 s') := fun d os => (blk_gr KU6.out d os).cell 0
            have m1 : ∀ d os, (Go.Sort.grow (redrawn wc d) os).cell? ⟨w.heap.size + 1 + 1, 1, none⟩ = some (.int .i64 n') := fun d os => (blk_gr KU6.out d os).cell 1
            have Q0 := hid (fun d os => Calls.regrown_of (CU.out (Go.Sort.grow (redrawn wc d) os)))
            have Q1 := hid (fun d os => Calls.regrown_of (CN.out (Go.Sort.grow (redrawn wc d) os)))
            have Q2 := hid (fun d os => Calls.regrown_of (CN2.out (Go.Sort.grow (redrawn wc d) os)))
            refine wp_region_quiet_below (by kernel_rfl) (by kernel_rfl) ?_
            repeat (go_big_quiet_step ((first | (go_at_call 10; exact Q0.out _ _) | (go_at_call_of 11 (Value.agg #[Value.int .i64 s, Value.int .i64 n]); exact Q1.out _ _) | (go_at_call_of 11 (Value.agg #[Value.int .i64 s', Value.int .i64 n']); exact Q2.out _ _) | fail)))
            refine wpQuiet_nil ?_
            intro _ hw'
            obtain ⟨⟨dq, osq⟩, hw''⟩ := hw'
            subst hw''
            have B7 := hid (bt B6.out (below_regrown wc dq osq))
            clear a0 a1 a2 a3 a4 a5 a6 a7 k0 k1 m0 m1 Q0 Q1 Q2
            generalize Go.Sort.grow (redrawn wc dq) osq = w7 at B7 ⊢
            go_wp2_with fail
            go_ret
            exact ⟨rfl, B7.out⟩
          · go_upto_region 6 with fail
            have a0 : ∀ d os, (Go.Sort.grow (redrawn wc d) os).cell? ⟨w.heap.size, 0, none⟩ = some (.bool false) := fun d os => (blk_gr KS6.out d os).cell 0
            have a1 : ∀ d os, (Go.Sort.grow (redrawn wc d) os).cell? ⟨w.heap.size, 1, none⟩ = some (.int .i64 dl) := fun d os => (blk_gr KS6.out d os).cell 1
            have a2 : ∀ d os, (Go.Sort.grow (redrawn wc d) os).cell? ⟨w.heap.size, 2, none⟩ = some (.int .u64 S.sec) := fun d os => (blk_gr KS6.out d os).cell 2
            have a3 : ∀ d os, (Go.Sort.grow (redrawn wc d) os).cell? ⟨w.heap.size, 3, none⟩ = some (.int .u64 S.min) := fun d os => (blk_gr KS6.out d os).cell 3
            have a4 : ∀ d os, (Go.Sort.grow (redrawn wc d) os).cell? ⟨w.heap.size, 4, none⟩ = some (.int .u64 S.hour) := fun d os => (blk_gr KS6.out d os).cell 4
            have a5 : ∀ d os, (Go.Sort.grow (redrawn wc d) os).cell? ⟨w.heap.size, 5, none⟩ = some (.int .u64 S.dom) := fun d os => (blk_gr KS6.out d os).cell 5
            have a6 : ∀ d os, (Go.Sort.grow (redrawn wc d) os).cell? ⟨w.heap.size, 6, none⟩ = some (.int .u64 S.month) := fun d os => (blk_gr KS6.out d os).cell 6
            have a7 : ∀ d os, (Go.Sort.grow (redrawn wc d) os).cell? ⟨w.heap.size, 7, none⟩ = some (.int .u64 S.dow) := fun d os => (blk_gr KS6.out d os).cell 7
            have k0 : ∀ d os, (Go.Sort.grow (redrawn wc d) os).cell? ⟨w.heap.size + 1, 0, none⟩ = some (.int .i64 s) := fun d os => (blk_gr KT6.out d os).cell 0
            have k1 : ∀ d os, (Go.Sort.grow (redrawn wc d) os).cell? ⟨w.heap.size + 1, 1, none⟩ = some (.int .i64 n) := fun d os => (blk_gr KT6.out d os).cell 1
            have m0 : ∀ d os, (Go.Sort.grow (redrawn wc d) os).cell? ⟨w.heap.size + 1 + 1, 0, none⟩ = some (.int .i64 s') := fun d os => (blk_gr KU6.out d os).cell 0
            have m1 : ∀ d os, (Go.Sort.grow (redrawn wc d) os).cell? ⟨w.heap.size + 1 + 1, 1, none⟩ = some (.int .i64 n') := fun d os => (blk_gr KU6.out d os).cell 1
            have Q0 := hid (fun d os => Calls.regrown_of (CU.out (Go.Sort.grow (redrawn wc d) os)))
            have Q1 := hid (fun d os => Calls.regrown_of (CN.out (Go.Sort.grow (redrawn wc d) os)))
            have Q2 := hid (fun d os => Calls.regrown_of (CN2.out (Go.Sort.grow (redrawn wc d) os)))
            refine wp_region_quiet_below (by kernel_rfl) (by kernel_rfl) ?_
            repeat (go_big_quiet_step ((first | (go_at_call 10; exact Q0.out _ _) | (go_at_call_of 11 (Value.agg #[Value.int .i64 s, Value.int .i64 n]); exact Q1.out _ _) | (go_at_call_of 11 (Value.agg #[Value.int .i64 s', Value.int .i64 n']); exact Q2.out _ _) | fail)))
            refine wpQuiet_nil ?_
            intro _ hw'
            obtain ⟨⟨dq, osq⟩, hw''⟩ := hw'
            subst hw''
            have B7 := hid (bt B6.out (below_regrown wc dq osq))
            clear a0 a1 a2 a3 a4 a5 a6 a7 k0 k1 m0 m1 Q0 Q1 Q2
            generalize Go.Sort.grow (redrawn wc dq) osq = w7 at B7 ⊢
            go_wp2_with fail
            go_ret
            exact ⟨rfl, B7.out⟩
          · have e1 : befB x' 0 x 0 = false := by
              have h1 := ans_le HA.out HA2.out (by
                have := HZ.out
                unfold befB at this
                rw [Bool.or_eq_false_iff] at this
                have h2 := of_decide_eq_false this.1
                omega)
              unfold befB
              rw [decide_eq_false (show ¬ x' < x by omega), decide_eq_false (show ¬ (0 : Int) < 0 by omega), Bool.and_false]
              rfl
            have e2 : befB s n x 0 = true := by
              unfold befB
              rw [decide_eq_true (ans_gt HA.out), Bool.true_or]
            have e3 : befB s' n' x' 0 = true := by
              unfold befB
              rw [decide_eq_true (ans_gt HA2.out), Bool.true_or]
            have D1 := hid (fun X => before_any x' 0 x 0 X)
            have D2 := hid (fun X => before_any s n x 0 X)
            have D3 := hid (fun X => before_any s' n' x' 0 X)
            rw [e1] at D1
            rw [e2] at D2
            rw [e3] at D3
            clear e1 e2 e3 CB
            have g0 := G6.out.cell 0
            have g1 := G6.out.cell 1
            have h0 := H6.out.cell 0
            have h1 := H6.out.cell 1
            have t0 := KT6.out.cell 0
            have t1 := KT6.out.cell 1
            have u0 := KU6.out.cell 0
            have u1 := KU6.out.cell 1
            go_wp2_with (first
              | (go_at_call_of 13 (Value.agg #[Value.int .i64 s', Value.int .i64 n']); refine (D3.out _).mono ?_; rintro e w9 ⟨rfl, hb⟩; have B9 := hid (bt B8.out hb); clear hb)
              | (go_at_call_of 13 (Value.agg #[Value.int .i64 s, Value.int .i64 n]); refine (D2.out _).mono ?_; rintro e w8 ⟨rfl, hb⟩; have B8 := hid (bt B7.out hb); have H8 := hid (H7.out.below hb); have KU8 := hid (KU7.out.below hb); clear hb g0 g1 t0 t1; have h0 := H8.out.cell 0; have h1 := H8.out.cell 1; have u0 := KU8.out.cell 0; have u1 := KU8.out.cell 1)
              | (go_at_call_of 13 (Value.agg #[Value.int .i64 x', Value.int .i64 0]); refine (D1.out _).mono ?_; rintro e w7 ⟨rfl, hb⟩; have B7 := hid (bt B6.out hb); have G7 := hid (G6.out.below hb); have H7 := hid (H6.out.below hb); have KT7 := hid (KT6.out.below hb); have KU7 := hid (KU6.out.below hb); clear hb g0 g1 h0 h1 t0 t1 u0 u1; have g0 := G7.out.cell 0; have g1 := G7.out.cell 1; have t0 := KT7.out.cell 0; have t1 := KT7.out.cell 1))
            go_ret
            exact ⟨rfl, B9.out⟩
    · have HN := hid (show ∀ b : Bool, (b = true → goodT s' n') → b = false from fun b h => by
        cases b
        · rfl
        · exact absurd (h rfl) hg2)
      go_enter Try.func5, Try.ntmps5
      go_upto_region 1 with fail
      generalize (((w.alloc (.cells (schCells dl S) 24)).alloc (.cells (icells s n) 26)).alloc (.cells (icells s' n') 26)) = w1 at B KS KT KU ⊢
      have c0 := KS.out.cell 0
      have c1 := KS.out.cell 1
      have c2 := KS.out.cell 2
      have c3 := KS.out.cell 3
      have c4 := KS.out.cell 4
      have c5 := KS.out.cell 5
      have c6 := KS.out.cell 6
      have c7 := KS.out.cell 7
      have t0 := KT.out.cell 0
      have t1 := KT.out.cell 1
      have u0 := KU.out.cell 0
      have u1 := KU.out.cell 1
      go_wp2_with (first
        | (go_at_call 8; refine (C.out _).mono ?_; rintro e w2 ⟨⟨b', rfl, hg'⟩, hb⟩; have B2 := hid (bt B.out hb); have KS2 := hid (KS.out.below hb); have KT2 := hid (KT.out.below hb); have KU2 := hid (KU.out.below hb); clear hb c0 c1 c2 c3 c4 c5 c6 c7 t0 t1 u0 u1; have u0 := KU2.out.cell 0; have u1 := KU2.out.cell 1; have t0 := KT2.out.cell 0; have t1 := KT2.out.cell 1; clear hg'; rcases b' with _ | _)
        | (go_at_call 17; refine (CG.out _).mono ?_; rintro e w3 ⟨⟨b', rfl, hg'⟩, hb⟩; have B3 := hid (bt B2.out hb); have KS3 := hid (KS2.out.below hb); have KT3 := hid (KT2.out.below hb); have KU3 := hid (KU2.out.below hb); clear hb u0 u1 t0 t1; have u0 := KU3.out.cell 0; have u1 := KU3.out.cell 1; have t0 := KT3.out.cell 0; have t1 := KT3.out.cell 1; obtain rfl := HN.out b' hg'; clear hg'))
      · go_wp2_with fail
        go_ret
        exact ⟨rfl, B2.out⟩
      · go_wp2_with fail
        go_ret
        exact ⟨rfl, B3.out⟩
  · have HN := hid (show ∀ b : Bool, (b = true → goodT s n) → b = false from fun b h => by
      cases b
      · rfl
      · exact absurd (h rfl) hg)
    go_enter Try.func5, Try.ntmps5
    go_upto_region 1 with fail
    generalize (((w.alloc (.cells (schCells dl S) 24)).alloc (.cells (icells s n) 26)).alloc (.cells (icells s' n') 26)) = w1 at B KS KT KU ⊢
    have c0 := KS.out.cell 0
    have c1 := KS.out.cell 1
    have c2 := KS.out.cell 2
    have c3 := KS.out.cell 3
    have c4 := KS.out.cell 4
    have c5 := KS.out.cell 5
    have c6 := KS.out.cell 6
    have c7 := KS.out.cell 7
    have t0 := KT.out.cell 0
    have t1 := KT.out.cell 1
    have u0 := KU.out.cell 0
    have u1 := KU.out.cell 1
    go_wp2_with (go_at_call 8; refine (C.out _).mono ?_; rintro e w2 ⟨⟨b', rfl, hg'⟩, hb⟩; have B2 := hid (bt B.out hb); have KS2 := hid (KS.out.below hb); have KT2 := hid (KT.out.below hb); have KU2 := hid (KU.out.below hb); clear hb c0 c1 c2 c3 c4 c5 c6 c7 t0 t1 u0 u1; have u0 := KU2.out.cell 0; have u1 := KU2.out.cell 1; have t0 := KT2.out.cell 0; have t1 := KT2.out.cell 1; obtain rfl := HN.out b' hg'; clear hg')
    go_ret
    exact ⟨rfl, B2.out⟩
theorem fnCronNextInOrder_walk (e : Bool) (dl a0 a1 a2 a3 a4 a5 s n s' n' : Int) (w : World) (_ : (Lit.int .i64 dl).wf = true) (h0 : (Lit.int .u64 a0).wf = true) (h1 : (Lit.int .u64 a1).wf = true) (h2 : (Lit.int .u64 a2).wf = true) (h3 : (Lit.int .u64 a3).wf = true) (h4 : (Lit.int .u64 a4).wf = true) (h5 : (Lit.int .u64 a5).wf = true) (_ : (Lit.int .i64 s).wf = true) (_ : (Lit.int .i64 n).wf = true) (_ : (Lit.int .i64 s').wf = true) (_ : (Lit.int .i64 n').wf = true) :
    Calls Try.prog 5 #[.agg #[.bool e, .int .i64 dl, .int .u64 a0, .int .u64 a1, .int .u64 a2, .int .u64 a3, .int .u64 a4, .int .u64 a5], .agg #[.int .i64 s, .int .i64 n], .agg #[.int .i64 s', .int .i64 n']] w fun e w' => e = .returned (.bool true) ∧ Below w.heap.size w w' := by
  cases e
  · exact inorder_core dl ⟨a0, a1, a2, a3, a4, a5⟩ s n s' n' w (setsAll_wf h0 h1 h2 h3 h4 h5)
  · exact inorder_every dl ⟨a0, a1, a2, a3, a4, a5⟩ s n s' n' w
end Go.Proofs.Ytfmagbkcfeckhaa
