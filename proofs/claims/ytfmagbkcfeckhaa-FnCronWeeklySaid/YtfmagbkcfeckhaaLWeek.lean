/- FnCronWeekly. Walked. (wip/gen/gen_lweek.py) -/
import Derived.Test.YtfmagbkcfeckhaaWeekC
set_option linter.unusedVariables false
set_option linter.unusedSimpArgs false
namespace Go.Proofs.Ytfmagbkcfeckhaa
open Go.RowKit

set_option maxHeartbeats 3200000 in
set_option maxRecDepth 100000 in
theorem weekly_every (dl a0 a1 a2 a3 a4 a5 s n k : Int) (w : World) :
    Calls Try.prog 7 #[.agg (schX true dl a0 a1 a2 a3 a4 a5), .agg (icells s n), .int .i64 k] w fun e' w' => e' = .returned (.bool true) ∧ Below w.heap.size w w' := by
  have z1 : (w.alloc (.cells (schX true dl a0 a1 a2 a3 a4 a5) 24)).heap.size = w.heap.size + 1 := by simp
  have B := hid (show Below w.heap.size w ((w.alloc (.cells (schX true dl a0 a1 a2 a3 a4 a5) 24)).alloc (.cells (icells s n) 26)) by go_grown)
  have KS := hid ((Blk.new w 24 (schX true dl a0 a1 a2 a3 a4 a5)).alloc (.cells (icells s n) 26))
  have KT := hid (Blk.new (w.alloc (.cells (schX true dl a0 a1 a2 a3 a4 a5) 24)) 26 (icells s n))
  rw [z1] at KT
  clear z1
  have CE := hid (fun X => eachDay_any true dl a0 a1 a2 a3 a4 a5 X)
  obtain ⟨S, hSd⟩ : ∃ S, weekS a0 a1 a2 a5 = S := ⟨_, rfl⟩
  go_enter Try.func7, Try.ntmps7
  go_upto_region 1 with fail
  generalize ((w.alloc (.cells (schX true dl a0 a1 a2 a3 a4 a5) 24)).alloc (.cells (icells s n) 26)) = w1 at B KS KT ⊢
  have c0 := KS.out.cell 0
  have c1 := KS.out.cell 1
  have c2 := KS.out.cell 2
  have c3 := KS.out.cell 3
  have c4 := KS.out.cell 4
  have c5 := KS.out.cell 5
  have c6 := KS.out.cell 6
  have c7 := KS.out.cell 7
  have t0 := KT.out.cell 0
  have t1 := KT.out.cell 1
  go_upto_region 4 with (first
    | (go_at_call 21; refine (CE.out _).mono ?_; rintro e' w2 ⟨rfl, hb⟩; have B2 := hid (bt B.out hb); have KS2 := hid (KS.out.below hb); have KT2 := hid (KT.out.below hb); clear hb c0 c1 c2 c3 c4 c5 c6 c7 t0 t1)
    | (refine wpList_store_mid rfl 24 (.tmp 3) (.tmp 17) rfl w.heap.size 0 (schX true dl a0 a1 a2 allDom allMon allDow) rfl rfl (there_b KS2.out 8 (Nat.le_refl 8)) (by kernel_rfl) (by simp [Value.oneCell']) ?_; have KS3 := hid (set_8 KS2.out (.bool true) (.int .i64 dl) (.int .u64 a0) (.int .u64 a1) (.int .u64 a2) (.int .u64 allDom) (.int .u64 allMon) (.int .u64 allDow)); have KT3 := hid (Blk.setCells_other (h := w.heap.size) (by omega) (schX true dl a0 a1 a2 allDom allMon allDow).toList 0 w2 KT2.out); have B3 := hid (below_setCells (g := w.heap.size) (Nat.le_refl _) (schX true dl a0 a1 a2 allDom allMon allDow).toList 0 w2 B2.out); generalize (w2.setCells w.heap.size 0 (schX true dl a0 a1 a2 allDom allMon allDow).toList) = w3 at KS3 KT3 B3 ⊢; have c7 := KS3.out.cell 7; have f7 := KS3.out.frozen 7))
  have KS4 := hid (show Blk (w3.setCell ⟨w.heap.size, 7, none⟩ (.int .u64 a5)) w.heap.size 24 (schE true dl (weekS a0 a1 a2 a5)) from KS3.out.set 7 (.int .u64 a5))
  rw [hSd] at KS4
  have KT4 := hid (KT3.out.other (show w.heap.size + 1 ≠ w.heap.size by omega) 7 (.int .u64 a5))
  have B4 := hid (below_set B3.out (Nat.le_refl _) 7 (.int .u64 a5))
  clear c7 f7 KS KT KS2 KT2 KS3 KT3 B B2 B3
  generalize (w3.setCell ⟨w.heap.size, 7, none⟩ (.int .u64 a5)) = w4 at KS4 KT4 B4 ⊢
  have c0 := KS4.out.cell 0
  have c1 := KS4.out.cell 1
  have c2 := KS4.out.cell 2
  have c3 := KS4.out.cell 3
  have c4 := KS4.out.cell 4
  have c5 := KS4.out.cell 5
  have c6 := KS4.out.cell 6
  have c7 := KS4.out.cell 7
  have t0 := KT4.out.cell 0
  have t1 := KT4.out.cell 1
  have lt0 := KS4.out.lt
  have lt1 := KT4.out.lt
  have C := hid (fun X => case_true dl S s n X)
  go_wp2_with (go_at_call 8; refine (C.out _).mono ?_; rintro e' w5 ⟨rfl, hb⟩; have B5 := hid (bt (bt B4.out (by go_grown)) hb); clear hb)
  go_ret
  exact ⟨rfl, B5.out⟩
set_option maxHeartbeats 3200000 in
set_option maxRecDepth 100000 in
theorem weekly_low (dl a0 a1 a2 a3 a4 a5 s n k : Int) (w : World) (hk : k < -200000) :
    Calls Try.prog 7 #[.agg (schX false dl a0 a1 a2 a3 a4 a5), .agg (icells s n), .int .i64 k] w fun e' w' => e' = .returned (.bool true) ∧ Below w.heap.size w w' := by
  have z1 : (w.alloc (.cells (schX false dl a0 a1 a2 a3 a4 a5) 24)).heap.size = w.heap.size + 1 := by simp
  have B := hid (show Below w.heap.size w ((w.alloc (.cells (schX false dl a0 a1 a2 a3 a4 a5) 24)).alloc (.cells (icells s n) 26)) by go_grown)
  have KS := hid ((Blk.new w 24 (schX false dl a0 a1 a2 a3 a4 a5)).alloc (.cells (icells s n) 26))
  have KT := hid (Blk.new (w.alloc (.cells (schX false dl a0 a1 a2 a3 a4 a5) 24)) 26 (icells s n))
  rw [z1] at KT
  clear z1
  have CE := hid (fun X => eachDay_any false dl a0 a1 a2 a3 a4 a5 X)
  obtain ⟨S, hSd⟩ : ∃ S, weekS a0 a1 a2 a5 = S := ⟨_, rfl⟩
  go_enter Try.func7, Try.ntmps7
  go_upto_region 1 with fail
  generalize ((w.alloc (.cells (schX false dl a0 a1 a2 a3 a4 a5) 24)).alloc (.cells (icells s n) 26)) = w1 at B KS KT ⊢
  have c0 := KS.out.cell 0
  have c1 := KS.out.cell 1
  have c2 := KS.out.cell 2
  have c3 := KS.out.cell 3
  have c4 := KS.out.cell 4
  have c5 := KS.out.cell 5
  have c6 := KS.out.cell 6
  have c7 := KS.out.cell 7
  have t0 := KT.out.cell 0
  have t1 := KT.out.cell 1
  go_upto_region 4 with (first
    | (go_at_call 21; refine (CE.out _).mono ?_; rintro e' w2 ⟨rfl, hb⟩; have B2 := hid (bt B.out hb); have KS2 := hid (KS.out.below hb); have KT2 := hid (KT.out.below hb); clear hb c0 c1 c2 c3 c4 c5 c6 c7 t0 t1)
    | (refine wpList_store_mid rfl 24 (.tmp 3) (.tmp 17) rfl w.heap.size 0 (schX false dl a0 a1 a2 allDom allMon allDow) rfl rfl (there_b KS2.out 8 (Nat.le_refl 8)) (by kernel_rfl) (by simp [Value.oneCell']) ?_; have KS3 := hid (set_8 KS2.out (.bool false) (.int .i64 dl) (.int .u64 a0) (.int .u64 a1) (.int .u64 a2) (.int .u64 allDom) (.int .u64 allMon) (.int .u64 allDow)); have KT3 := hid (Blk.setCells_other (h := w.heap.size) (by omega) (schX false dl a0 a1 a2 allDom allMon allDow).toList 0 w2 KT2.out); have B3 := hid (below_setCells (g := w.heap.size) (Nat.le_refl _) (schX false dl a0 a1 a2 allDom allMon allDow).toList 0 w2 B2.out); generalize (w2.setCells w.heap.size 0 (schX false dl a0 a1 a2 allDom allMon allDow).toList) = w3 at KS3 KT3 B3 ⊢; have c7 := KS3.out.cell 7; have f7 := KS3.out.frozen 7))
  have KS4 := hid (show Blk (w3.setCell ⟨w.heap.size, 7, none⟩ (.int .u64 a5)) w.heap.size 24 (schE false dl (weekS a0 a1 a2 a5)) from KS3.out.set 7 (.int .u64 a5))
  rw [hSd] at KS4
  have KT4 := hid (KT3.out.other (show w.heap.size + 1 ≠ w.heap.size by omega) 7 (.int .u64 a5))
  have B4 := hid (below_set B3.out (Nat.le_refl _) 7 (.int .u64 a5))
  clear c7 f7 KS KT KS2 KT2 KS3 KT3 B B2 B3
  generalize (w3.setCell ⟨w.heap.size, 7, none⟩ (.int .u64 a5)) = w4 at KS4 KT4 B4 ⊢
  have c0 := KS4.out.cell 0
  have c1 := KS4.out.cell 1
  have c2 := KS4.out.cell 2
  have c3 := KS4.out.cell 3
  have c4 := KS4.out.cell 4
  have c5 := KS4.out.cell 5
  have c6 := KS4.out.cell 6
  have c7 := KS4.out.cell 7
  have t0 := KT4.out.cell 0
  have t1 := KT4.out.cell 1
  have lt0 := KS4.out.lt
  have lt1 := KT4.out.lt
  have C := hid (fun X => case_false dl S s n X)
  go_wp2_with (go_at_call 8; refine (C.out _).mono ?_; rintro e' w5 ⟨⟨b', rfl, hg'⟩, hb⟩; have B5 := hid (bt (bt B4.out (by go_grown)) hb); clear hb hg'; rcases b' with _ | _)
  all_goals
    go_ret
    exact ⟨rfl, B5.out⟩
set_option maxHeartbeats 3200000 in
set_option maxRecDepth 100000 in
theorem weekly_high (dl a0 a1 a2 a3 a4 a5 s n k : Int) (w : World) (hk : 200000 < k) :
    Calls Try.prog 7 #[.agg (schX false dl a0 a1 a2 a3 a4 a5), .agg (icells s n), .int .i64 k] w fun e' w' => e' = .returned (.bool true) ∧ Below w.heap.size w w' := by
  have z1 : (w.alloc (.cells (schX false dl a0 a1 a2 a3 a4 a5) 24)).heap.size = w.heap.size + 1 := by simp
  have B := hid (show Below w.heap.size w ((w.alloc (.cells (schX false dl a0 a1 a2 a3 a4 a5) 24)).alloc (.cells (icells s n) 26)) by go_grown)
  have KS := hid ((Blk.new w 24 (schX false dl a0 a1 a2 a3 a4 a5)).alloc (.cells (icells s n) 26))
  have KT := hid (Blk.new (w.alloc (.cells (schX false dl a0 a1 a2 a3 a4 a5) 24)) 26 (icells s n))
  rw [z1] at KT
  clear z1
  have CE := hid (fun X => eachDay_any false dl a0 a1 a2 a3 a4 a5 X)
  obtain ⟨S, hSd⟩ : ∃ S, weekS a0 a1 a2 a5 = S := ⟨_, rfl⟩
  go_enter Try.func7, Try.ntmps7
  go_upto_region 1 with fail
  generalize ((w.alloc (.cells (schX false dl a0 a1 a2 a3 a4 a5) 24)).alloc (.cells (icells s n) 26)) = w1 at B KS KT ⊢
  have c0 := KS.out.cell 0
  have c1 := KS.out.cell 1
  have c2 := KS.out.cell 2
  have c3 := KS.out.cell 3
  have c4 := KS.out.cell 4
  have c5 := KS.out.cell 5
  have c6 := KS.out.cell 6
  have c7 := KS.out.cell 7
  have t0 := KT.out.cell 0
  have t1 := KT.out.cell 1
  go_upto_region 4 with (first
    | (go_at_call 21; refine (CE.out _).mono ?_; rintro e' w2 ⟨rfl, hb⟩; have B2 := hid (bt B.out hb); have KS2 := hid (KS.out.below hb); have KT2 := hid (KT.out.below hb); clear hb c0 c1 c2 c3 c4 c5 c6 c7 t0 t1)
    | (refine wpList_store_mid rfl 24 (.tmp 3) (.tmp 17) rfl w.heap.size 0 (schX false dl a0 a1 a2 allDom allMon allDow) rfl rfl (there_b KS2.out 8 (Nat.le_refl 8)) (by kernel_rfl) (by simp [Value.oneCell']) ?_; have KS3 := hid (set_8 KS2.out (.bool false) (.int .i64 dl) (.int .u64 a0) (.int .u64 a1) (.int .u64 a2) (.int .u64 allDom) (.int .u64 allMon) (.int .u64 allDow)); have KT3 := hid (Blk.setCells_other (h := w.heap.size) (by omega) (schX false dl a0 a1 a2 allDom allMon allDow).toList 0 w2 KT2.out); have B3 := hid (below_setCells (g := w.heap.size) (Nat.le_refl _) (schX false dl a0 a1 a2 allDom allMon allDow).toList 0 w2 B2.out); generalize (w2.setCells w.heap.size 0 (schX false dl a0 a1 a2 allDom allMon allDow).toList) = w3 at KS3 KT3 B3 ⊢; have c7 := KS3.out.cell 7; have f7 := KS3.out.frozen 7))
  have KS4 := hid (show Blk (w3.setCell ⟨w.heap.size, 7, none⟩ (.int .u64 a5)) w.heap.size 24 (schE false dl (weekS a0 a1 a2 a5)) from KS3.out.set 7 (.int .u64 a5))
  rw [hSd] at KS4
  have KT4 := hid (KT3.out.other (show w.heap.size + 1 ≠ w.heap.size by omega) 7 (.int .u64 a5))
  have B4 := hid (below_set B3.out (Nat.le_refl _) 7 (.int .u64 a5))
  clear c7 f7 KS KT KS2 KT2 KS3 KT3 B B2 B3
  generalize (w3.setCell ⟨w.heap.size, 7, none⟩ (.int .u64 a5)) = w4 at KS4 KT4 B4 ⊢
  have c0 := KS4.out.cell 0
  have c1 := KS4.out.cell 1
  have c2 := KS4.out.cell 2
  have c3 := KS4.out.cell 3
  have c4 := KS4.out.cell 4
  have c5 := KS4.out.cell 5
  have c6 := KS4.out.cell 6
  have c7 := KS4.out.cell 7
  have t0 := KT4.out.cell 0
  have t1 := KT4.out.cell 1
  have lt0 := KS4.out.lt
  have lt1 := KT4.out.lt
  have C := hid (fun X => case_false dl S s n X)
  go_wp2_with (go_at_call 8; refine (C.out _).mono ?_; rintro e' w5 ⟨⟨b', rfl, hg'⟩, hb⟩; have B5 := hid (bt (bt B4.out (by go_grown)) hb); clear hb hg'; rcases b' with _ | _)
  all_goals
    go_ret
    exact ⟨rfl, B5.out⟩
set_option maxHeartbeats 3200000 in
set_option maxRecDepth 100000 in
theorem weekly_near (dl a0 a1 a2 a3 a4 a5 s n k : Int) (w : World) (hS : setsAll (weekS a0 a1 a2 a5)) (k1 : ¬ k < -200000) (k2 : ¬ 200000 < k) :
    Calls Try.prog 7 #[.agg (schX false dl a0 a1 a2 a3 a4 a5), .agg (icells s n), .int .i64 k] w fun e' w' => e' = .returned (.bool true) ∧ Below w.heap.size w w' := by
  have z1 : (w.alloc (.cells (schX false dl a0 a1 a2 a3 a4 a5) 24)).heap.size = w.heap.size + 1 := by simp
  have B := hid (show Below w.heap.size w ((w.alloc (.cells (schX false dl a0 a1 a2 a3 a4 a5) 24)).alloc (.cells (icells s n) 26)) by go_grown)
  have KS := hid ((Blk.new w 24 (schX false dl a0 a1 a2 a3 a4 a5)).alloc (.cells (icells s n) 26))
  have KT := hid (Blk.new (w.alloc (.cells (schX false dl a0 a1 a2 a3 a4 a5) 24)) 26 (icells s n))
  rw [z1] at KT
  clear z1
  have CE := hid (fun X => eachDay_any false dl a0 a1 a2 a3 a4 a5 X)
  obtain ⟨S, hSd⟩ : ∃ S, weekS a0 a1 a2 a5 = S := ⟨_, rfl⟩
  have C := hid (fun X => case_false dl S s n X)
  have m0 : -120960000000 ≤ 604800 * k ∧ 604800 * k ≤ 120960000000 := by omega
  obtain ⟨m, hm⟩ : ∃ m, 604800 * k = m := ⟨_, rfl⟩
  rw [hm] at m0
  by_cases hg : goodT s n
  · obtain ⟨u, hu⟩ : ∃ u, s + m = u := ⟨_, rfl⟩
    have gs1 := hg.1
    have gs2 := hg.2.1
    have b0 : -9223372036854775808 ≤ s + m ∧ s + m ≤ 9223372036854775807 := by omega
    have m9 : -9223372036854775808 ≤ 604800 * k ∧ 604800 * k ≤ 9223372036854775807 := by omega
    have CG := hid (fun X => cronGood_any u n X)
    by_cases hg2 : goodT u n
    · obtain ⟨x, b, ha⟩ := ans_ex S s 0 (by omega) (by omega)
      obtain ⟨x', b2, ha2⟩ := ans_ex S u 0 (by have := hg2.1; omega) (by have := hg2.2.1; omega)
      obtain ⟨rfl, t2, t3⟩ := week_two (k := k) gs1 gs2 (by rw [hm, hu]; exact hg2.1) (by rw [hm, hu]; exact hg2.2.1) (hSd.symm ▸ ha) (by rw [hm, hu]; exact hSd.symm ▸ ha2)
      rw [hm] at t2
      rw [hSd] at t3 hS
      have CU := hid (fun X => cutc_any X)
      have CI := hid (fun X => impl_utc dl S s n x b2 X hS hg ha)
      have CI2 := hid (fun X => impl_utc dl S u n x' b2 X hS hg2 ha2)
      have CF := hid (fun X => fieldsOf_any dl S hS X)
      have CM := hid (fun X => moved_any x x' m b2 X (fun h => ⟨(t2 h).1, by have := (t2 h).2.2; omega, by have := (t2 h).2.1; omega⟩))
      obtain ⟨FF, hFF⟩ : ∃ FF, fldB S = FF := ⟨_, rfl⟩
      rw [hFF] at t3 CF
      have CNV := hid (fun X => never_any FF X)
      have CEM := hid (fun X => empty_any (fun i => FF (320 + i)) X)
      obtain ⟨nv, hnv⟩ : ∃ b, neverB FF = b := ⟨_, rfl⟩
      obtain ⟨em, hem⟩ : ∃ b, emptyB (fun i => FF (320 + i)) = b := ⟨_, rfl⟩
      rw [hnv] at CNV t3
      rw [hem] at CEM t3
      have HB := hid t3
      have U47 := hid (Try.underlying47)
      have N47 := hid (show (Try.prog.info? 47).map (·.size) = some (bcells 384 FF).toList.length by rw [bcells_len]; kernel_rfl)
      have U45 := hid (Try.underlying45)
      have N45 := hid (show ∀ f : Nat → Bool, (Try.prog.info? 45).map (·.size) = some (bcells 64 f).toList.length from fun f => by rw [bcells_len]; kernel_rfl)
      have L0 := hid (fun (X : World) (g : Nat) (h : Blk X g 47 (bcells 384 FF)) => show X.rangeAt g 0 (bcells 384 FF).toList by
        have := h.range_b (o := 0) (m := 384) (by omega)
        rwa [show (fun i => FF (0 + i)) = FF from funext fun i => by rw [Nat.zero_add]] at this)
      clear t2 t3 hnv hem hFF hS ha ha2 hg hg2 gs1 gs2
      have v1 : IntKind.i64.wrap (604800 * k) = m := by rw [← hm]; exact IntWalk.i64_in _ m9
      have v2 : IntKind.i64.wrap (s + m) = u := by rw [hu]; exact IntWalk.i64_in _ (hu ▸ b0)
      have V1 := hid v1
      clear m0 m9 b0 hm hu
      go_enter Try.func7, Try.ntmps7
      go_upto_region 1 with fail
      generalize ((w.alloc (.cells (schX false dl a0 a1 a2 a3 a4 a5) 24)).alloc (.cells (icells s n) 26)) = w1 at B KS KT ⊢
      have c0 := KS.out.cell 0
      have c1 := KS.out.cell 1
      have c2 := KS.out.cell 2
      have c3 := KS.out.cell 3
      have c4 := KS.out.cell 4
      have c5 := KS.out.cell 5
      have c6 := KS.out.cell 6
      have c7 := KS.out.cell 7
      have t0 := KT.out.cell 0
      have t1 := KT.out.cell 1
      go_upto_region 4 with (first
        | (go_at_call 21; refine (CE.out _).mono ?_; rintro e' w2 ⟨rfl, hb⟩; have B2 := hid (bt B.out hb); have KS2 := hid (KS.out.below hb); have KT2 := hid (KT.out.below hb); clear hb c0 c1 c2 c3 c4 c5 c6 c7 t0 t1)
        | (refine wpList_store_mid rfl 24 (.tmp 3) (.tmp 17) rfl w.heap.size 0 (schX false dl a0 a1 a2 allDom allMon allDow) rfl rfl (there_b KS2.out 8 (Nat.le_refl 8)) (by kernel_rfl) (by simp [Value.oneCell']) ?_; have KS3 := hid (set_8 KS2.out (.bool false) (.int .i64 dl) (.int .u64 a0) (.int .u64 a1) (.int .u64 a2) (.int .u64 allDom) (.int .u64 allMon) (.int .u64 allDow)); have KT3 := hid (Blk.setCells_other (h := w.heap.size) (by omega) (schX false dl a0 a1 a2 allDom allMon allDow).toList 0 w2 KT2.out); have B3 := hid (below_setCells (g := w.heap.size) (Nat.le_refl _) (schX false dl a0 a1 a2 allDom allMon allDow).toList 0 w2 B2.out); generalize (w2.setCells w.heap.size 0 (schX false dl a0 a1 a2 allDom allMon allDow).toList) = w3 at KS3 KT3 B3 ⊢; have c7 := KS3.out.cell 7; have f7 := KS3.out.frozen 7))
      have KS4 := hid (show Blk (w3.setCell ⟨w.heap.size, 7, none⟩ (.int .u64 a5)) w.heap.size 24 (schE false dl (weekS a0 a1 a2 a5)) from KS3.out.set 7 (.int .u64 a5))
      rw [hSd] at KS4
      have KT4 := hid (KT3.out.other (show w.heap.size + 1 ≠ w.heap.size by omega) 7 (.int .u64 a5))
      have B4 := hid (below_set B3.out (Nat.le_refl _) 7 (.int .u64 a5))
      clear c7 f7 KS KT KS2 KT2 KS3 KT3 B B2 B3
      generalize (w3.setCell ⟨w.heap.size, 7, none⟩ (.int .u64 a5)) = w4 at KS4 KT4 B4 ⊢
      have c0 := KS4.out.cell 0
      have c1 := KS4.out.cell 1
      have c2 := KS4.out.cell 2
      have c3 := KS4.out.cell 3
      have c4 := KS4.out.cell 4
      have c5 := KS4.out.cell 5
      have c6 := KS4.out.cell 6
      have c7 := KS4.out.cell 7
      have t0 := KT4.out.cell 0
      have t1 := KT4.out.cell 1
      go_upto_region 5 with fail
      have KS5 := hid (KS4.out.alloc (.cells (icells u n) 26))
      have KT5 := hid (KT4.out.alloc (.cells (icells u n) 26))
      have KU5 := hid (Blk.new w4 26 (icells u n))
      have B5 := hid (show Below w.heap.size w (w4.alloc (.cells (icells u n) 26)) from bt B4.out (by go_grown))
      clear c0 c1 c2 c3 c4 c5 c6 c7 t0 t1 KS4 KT4 B4
      generalize (w4.alloc (.cells (icells u n) 26)) = w5 at KS5 KT5 KU5 B5 ⊢
      obtain ⟨g8, hg8⟩ : ∃ g, w4.heap.size = g := ⟨_, rfl⟩
      rw [hg8] at KU5 ⊢
      clear hg8
      have c0 := KS5.out.cell 0
      have c1 := KS5.out.cell 1
      have c2 := KS5.out.cell 2
      have c3 := KS5.out.cell 3
      have c4 := KS5.out.cell 4
      have c5 := KS5.out.cell 5
      have c6 := KS5.out.cell 6
      have c7 := KS5.out.cell 7
      have t0 := KT5.out.cell 0
      have t1 := KT5.out.cell 1
      go_upto_region 7 with (first
        | (go_at_call 8; refine (C.out _).mono ?_; rintro e' w6 ⟨⟨b', rfl, hg'⟩, hb⟩; have B6 := hid (bt B5.out hb); have KS6 := hid (KS5.out.below hb); have KT6 := hid (KT5.out.below hb); have KU6 := hid (KU5.out.below hb); clear hb c0 c1 c2 c3 c4 c5 c6 c7 t0 t1; have u0 := KU6.out.cell 0; have u1 := KU6.out.cell 1; clear hg'; rcases b' with _ | _)
        | (go_at_call 17; refine (CG.out _).mono ?_; rintro e' w7 ⟨⟨b', rfl, hg'⟩, hb⟩; have B7 := hid (bt B6.out hb); have KS7 := hid (KS6.out.below hb); have KT7 := hid (KT6.out.below hb); have KU7 := hid (KU6.out.below hb); clear hb u0 u1; clear hg'; rcases b' with _ | _))
      · go_wp2_with fail
        go_ret
        exact ⟨rfl, B6.out⟩
      · go_wp2_with fail
        go_ret
        exact ⟨rfl, B7.out⟩
      clear v1 v2 B5 B6 KS5 KT5 KU5 KS6 KT6 KU6 C CG CE
      go_cut [9, 10] (fun pv bv wx => ∃ g, pv = .pointer (some ⟨g, 0, none⟩) ∧ bv = .bool b2 ∧ Blk wx g 26 (icells x 0) ∧ w7.heap.size ≤ g ∧ Below w7.heap.size w7 wx)
      case first =>
        go_region_held3 (fun w' => w'.cell? ⟨w.heap.size, 0, none⟩ = some (.bool false) ∧ w'.cell? ⟨w.heap.size, 1, none⟩ = some (.int .i64 dl) ∧ w'.cell? ⟨w.heap.size, 2, none⟩ = some (.int .u64 S.sec) ∧ w'.cell? ⟨w.heap.size, 3, none⟩ = some (.int .u64 S.min) ∧ w'.cell? ⟨w.heap.size, 4, none⟩ = some (.int .u64 S.hour) ∧ w'.cell? ⟨w.heap.size, 5, none⟩ = some (.int .u64 S.dom) ∧ w'.cell? ⟨w.heap.size, 6, none⟩ = some (.int .u64 S.month) ∧ w'.cell? ⟨w.heap.size, 7, none⟩ = some (.int .u64 S.dow) ∧ w'.cell? ⟨w.heap.size + 1, 0, none⟩ = some (.int .i64 s) ∧ w'.cell? ⟨w.heap.size + 1, 1, none⟩ = some (.int .i64 n))
          ((refine keepM KS7.out KT7.out ?_; first | (go_grown; done) | (exact H3.out; done) | (exact H3.out.alloc H3.out.size _; done) | (exact H2.out; done) | (exact H2.out.alloc H2.out.size _; done) | (exact below_set2 H3.out (Nat.le_refl _) _ _; done) | (exact below_set2 H3.out H2.out.size _ _; done) | (exact below_set2 (H3.out.alloc H3.out.size _) H3.out.size _ _; done)))
          (first
            | (go_at_call 10; refine (CU.out _).mono ?_; rintro e' w5 ⟨rfl, hb⟩; have H2 := hid (bt (X := w7) (by go_grown) hb); (first | have A := hid (Blk.below (w' := w5) (show Blk (w7.alloc (.cells (icells 0 0) 26)).drew w7.heap.size 26 (icells 0 0) from Blk.new w7 26 _) hb) | skip); clear hb)
            | (go_at_call 9; refine (CI.out _).mono ?_; rintro e' w6 ⟨rfl, hb⟩; have H3 := hid (bt (X := w7) (by first | exact H2.out | exact H2.out.alloc H2.out.size _) hb); (first | have A := hid (Blk.below (Blk.new _ _ _) hb) | have A := hid (Blk.below A.out hb) | skip); (first | (have a0 := A.out.cell 0; have a1 := A.out.cell 1; have f0 := A.out.frozen 0; have f1 := A.out.frozen 1) | skip); clear hb))
        all_goals
          go_wp2_with fail
          go_meet
          first
            | exact ⟨_, rfl, rfl, Blk.new w6 _ _, H3.out.size, H3.out.alloc H3.out.size _⟩
            | exact ⟨_, rfl, rfl, (A.out.set 0 _).set 1 _, H2.out.size, below_set2 H3.out H2.out.size _ _⟩
            | exact ⟨_, rfl, rfl, (A.out.set 0 _).set 1 _, Nat.le_refl _, below_set2 H3.out (Nat.le_refl _) _ _⟩
      case rest =>
        obtain ⟨g, rfl, rfl, hbk, hle, hbw⟩ := hcut
        have B8 := hid (bt B7.out hbw)
        have G8 := hid hbk
        have KS8 := hid (KS7.out.below hbw)
        have KU8 := hid (KU7.out.below hbw)
        clear hbk hle hbw
        go_upto_region 8 with fail
        go_cut [11, 12] (fun pv bv wx => ∃ g, pv = .pointer (some ⟨g, 0, none⟩) ∧ bv = .bool b2 ∧ Blk wx g 26 (icells x' 0) ∧ wc.heap.size ≤ g ∧ Below wc.heap.size wc wx)
        case first =>
          go_region_held3 (fun w' => w'.cell? ⟨w.heap.size, 0, none⟩ = some (.bool false) ∧ w'.cell? ⟨w.heap.size, 1, none⟩ = some (.int .i64 dl) ∧ w'.cell? ⟨w.heap.size, 2, none⟩ = some (.int .u64 S.sec) ∧ w'.cell? ⟨w.heap.size, 3, none⟩ = some (.int .u64 S.min) ∧ w'.cell? ⟨w.heap.size, 4, none⟩ = some (.int .u64 S.hour) ∧ w'.cell? ⟨w.heap.size, 5, none⟩ = some (.int .u64 S.dom) ∧ w'.cell? ⟨w.heap.size, 6, none⟩ = some (.int .u64 S.month) ∧ w'.cell? ⟨w.heap.size, 7, none⟩ = some (.int .u64 S.dow) ∧ w'.cell? ⟨g8, 0, none⟩ = some (.int .i64 u) ∧ w'.cell? ⟨g8, 1, none⟩ = some (.int .i64 n))
            ((refine keepM KS8.out KU8.out ?_; first | (go_grown; done) | (exact H3.out; done) | (exact H3.out.alloc H3.out.size _; done) | (exact H2.out; done) | (exact H2.out.alloc H2.out.size _; done) | (exact below_set2 H3.out (Nat.le_refl _) _ _; done) | (exact below_set2 H3.out H2.out.size _ _; done) | (exact below_set2 (H3.out.alloc H3.out.size _) H3.out.size _ _; done)))
            (first
              | (go_at_call 10; refine (CU.out _).mono ?_; rintro e' w5 ⟨rfl, hb⟩; have H2 := hid (bt (X := wc) (by go_grown) hb); (first | have A := hid (Blk.below (w' := w5) (show Blk (wc.alloc (.cells (icells 0 0) 26)).drew wc.heap.size 26 (icells 0 0) from Blk.new wc 26 _) hb) | skip); clear hb)
              | (go_at_call 9; refine (CI2.out _).mono ?_; rintro e' w6 ⟨rfl, hb⟩; have H3 := hid (bt (X := wc) (by first | exact H2.out | exact H2.out.alloc H2.out.size _) hb); (first | have A := hid (Blk.below (Blk.new _ _ _) hb) | have A := hid (Blk.below A.out hb) | skip); (first | (have a0 := A.out.cell 0; have a1 := A.out.cell 1; have f0 := A.out.frozen 0; have f1 := A.out.frozen 1) | skip); clear hb))
          all_goals
            go_wp2_with fail
            go_meet
            first
              | exact ⟨_, rfl, rfl, Blk.new w6 _ _, H3.out.size, H3.out.alloc H3.out.size _⟩
              | exact ⟨_, rfl, rfl, (A.out.set 0 _).set 1 _, H2.out.size, below_set2 H3.out H2.out.size _ _⟩
              | exact ⟨_, rfl, rfl, (A.out.set 0 _).set 1 _, Nat.le_refl _, below_set2 H3.out (Nat.le_refl _) _ _⟩
        case rest =>
          obtain ⟨g', rfl, rfl, hbk, hle, hbw⟩ := hcut
          have B9 := hid (bt B8.out hbw)
          have G9 := hid (G8.out.below hbw)
          have H9 := hid hbk
          have KS9 := hid (KS8.out.below hbw)
          clear hbk hle hbw
          have c0 := KS9.out.cell 0
          have c1 := KS9.out.cell 1
          have c2 := KS9.out.cell 2
          have c3 := KS9.out.cell 3
          have c4 := KS9.out.cell 4
          have c5 := KS9.out.cell 5
          have c6 := KS9.out.cell 6
          have c7 := KS9.out.cell 7
          have hz := zero47
          go_upto_region 10 with (first
            | (go_at_call 16; refine (CF.out _).mono ?_; rintro e' w10 ⟨rfl, hb⟩; have B10 := hid (bt B9.out hb); have G10 := hid (G9.out.below hb); have H10 := hid (H9.out.below hb); clear hb c0 c1 c2 c3 c4 c5 c6 c7)
            | (refine wpList_store_mid rfl 47 (.tmp 13) (.tmp 60) rfl w10.heap.size 0 (bcells 384 FF) rfl rfl (by rw [bcells_size]; exact (Blk.new w10 47 (bcells 384 fun _ => false)).there_b (by omega)) (by rw [bcells_size]; kernel_rfl) bcells_one ?_; have KF := hid ((Blk.new w10 47 (bcells 384 fun _ => false)).putm_b (o := 0) (m := 384) (h := FF) (by omega)); have G11 := hid (Blk.setCells_other (h := w10.heap.size) (Nat.ne_of_lt G10.out.lt) (bcells 384 FF).toList 0 _ (G10.out.alloc (.cells (bcells 384 fun _ => false) 47))); have H11 := hid (Blk.setCells_other (h := w10.heap.size) (Nat.ne_of_lt H10.out.lt) (bcells 384 FF).toList 0 _ (H10.out.alloc (.cells (bcells 384 fun _ => false) 47))); have B11 := hid (below_setCells (g := w10.heap.size) B10.out.size (bcells 384 FF).toList 0 _ (show Below w.heap.size w (w10.alloc (.cells (bcells 384 fun _ => false) 47)) from bt B10.out (by go_grown))); generalize ((w10.alloc (.cells (bcells 384 fun _ => false) 47)).setCells w10.heap.size 0 (bcells 384 FF).toList) = w11 at KF G11 H11 B11 ⊢))
          obtain ⟨g13, hg13⟩ : ∃ g, w10.heap.size = g := ⟨_, rfl⟩
          rw [hg13] at KF ⊢
          clear hg13
          have hkf := KF.out
          rw [bcells_ext (f := putm (fun _ => false) 0 384 FF) (h := FF) (fun i hi => by simp only [putm]; rw [if_pos (by omega), Nat.sub_zero])] at hkf
          have KF11 := hid hkf
          clear hkf KF hz
          have g0 := G11.out.cell 0
          have g1 := G11.out.cell 1
          have h0 := H11.out.cell 0
          have h1 := H11.out.cell 1
          have v1 : IntKind.i64.wrap (604800 * k) = m := V1.out
          rcases nv with _ | _
          · rcases em with _ | _
            · obtain rfl : b2 = true := HB.out
              go_wp2_with (first
                | (go_at_call 22; refine (CM.out _).mono ?_; rintro e' w12 ⟨rfl, hb⟩; have B12 := hid (bt B11.out hb); have KF12 := hid (KF11.out.below hb); clear hb g0 g1 h0 h1)
                | (refine wpList_load_g rfl 47 (.tmp 13) rfl g13 0 rfl (bcells 384 FF).toList _ (L0.out _ _ KF12.out) U47.out rfl N47.out ?_)
                | (go_at_call 23; refine (CNV.out _).mono ?_; rintro e' w13 ⟨rfl, hb⟩; have B13 := hid (bt B12.out hb); have KF13 := hid (KF12.out.below hb); clear hb)
                | (refine wpList_load_g rfl 45 (.tmp 73) rfl g13 320 rfl (bcells 64 fun i => FF (320 + i)).toList _ (KF13.out.range_b (by omega)) U45.out rfl (N45.out _) ?_)
                | (go_at_call 24; refine (CEM.out _).mono ?_; rintro e' w14 ⟨rfl, hb⟩; have B14 := hid (bt B13.out hb); clear hb))
              go_ret
              first | exact ⟨rfl, B14.out⟩ | exact ⟨rfl, B13.out⟩ | exact ⟨rfl, B12.out⟩
            · obtain rfl : b2 = false := HB.out
              go_wp2_with (first
                | (go_at_call 22; refine (CM.out _).mono ?_; rintro e' w12 ⟨rfl, hb⟩; have B12 := hid (bt B11.out hb); have KF12 := hid (KF11.out.below hb); clear hb g0 g1 h0 h1)
                | (refine wpList_load_g rfl 47 (.tmp 13) rfl g13 0 rfl (bcells 384 FF).toList _ (L0.out _ _ KF12.out) U47.out rfl N47.out ?_)
                | (go_at_call 23; refine (CNV.out _).mono ?_; rintro e' w13 ⟨rfl, hb⟩; have B13 := hid (bt B12.out hb); have KF13 := hid (KF12.out.below hb); clear hb)
                | (refine wpList_load_g rfl 45 (.tmp 73) rfl g13 320 rfl (bcells 64 fun i => FF (320 + i)).toList _ (KF13.out.range_b (by omega)) U45.out rfl (N45.out _) ?_)
                | (go_at_call 24; refine (CEM.out _).mono ?_; rintro e' w14 ⟨rfl, hb⟩; have B14 := hid (bt B13.out hb); clear hb))
              go_ret
              first | exact ⟨rfl, B14.out⟩ | exact ⟨rfl, B13.out⟩ | exact ⟨rfl, B12.out⟩
          · obtain rfl : b2 = false := HB.out
            go_wp2_with (first
              | (go_at_call 22; refine (CM.out _).mono ?_; rintro e' w12 ⟨rfl, hb⟩; have B12 := hid (bt B11.out hb); have KF12 := hid (KF11.out.below hb); clear hb g0 g1 h0 h1)
              | (refine wpList_load_g rfl 47 (.tmp 13) rfl g13 0 rfl (bcells 384 FF).toList _ (L0.out _ _ KF12.out) U47.out rfl N47.out ?_)
              | (go_at_call 23; refine (CNV.out _).mono ?_; rintro e' w13 ⟨rfl, hb⟩; have B13 := hid (bt B12.out hb); have KF13 := hid (KF12.out.below hb); clear hb)
              | (refine wpList_load_g rfl 45 (.tmp 73) rfl g13 320 rfl (bcells 64 fun i => FF (320 + i)).toList _ (KF13.out.range_b (by omega)) U45.out rfl (N45.out _) ?_)
              | (go_at_call 24; refine (CEM.out _).mono ?_; rintro e' w14 ⟨rfl, hb⟩; have B14 := hid (bt B13.out hb); clear hb))
            go_ret
            first | exact ⟨rfl, B14.out⟩ | exact ⟨rfl, B13.out⟩ | exact ⟨rfl, B12.out⟩
    · have HN := hid (show ∀ b : Bool, (b = true → goodT u n) → b = false from fun b h => by
        cases b
        · rfl
        · exact absurd (h rfl) hg2)
      have v1 : IntKind.i64.wrap (604800 * k) = m := by rw [← hm]; exact IntWalk.i64_in _ m9
      have v2 : IntKind.i64.wrap (s + m) = u := by rw [hu]; exact IntWalk.i64_in _ (hu ▸ b0)
      clear m0 m9 b0 hm hu hS hg hg2 gs1 gs2
      go_enter Try.func7, Try.ntmps7
      go_upto_region 1 with fail
      generalize ((w.alloc (.cells (schX false dl a0 a1 a2 a3 a4 a5) 24)).alloc (.cells (icells s n) 26)) = w1 at B KS KT ⊢
      have c0 := KS.out.cell 0
      have c1 := KS.out.cell 1
      have c2 := KS.out.cell 2
      have c3 := KS.out.cell 3
      have c4 := KS.out.cell 4
      have c5 := KS.out.cell 5
      have c6 := KS.out.cell 6
      have c7 := KS.out.cell 7
      have t0 := KT.out.cell 0
      have t1 := KT.out.cell 1
      go_upto_region 4 with (first
        | (go_at_call 21; refine (CE.out _).mono ?_; rintro e' w2 ⟨rfl, hb⟩; have B2 := hid (bt B.out hb); have KS2 := hid (KS.out.below hb); have KT2 := hid (KT.out.below hb); clear hb c0 c1 c2 c3 c4 c5 c6 c7 t0 t1)
        | (refine wpList_store_mid rfl 24 (.tmp 3) (.tmp 17) rfl w.heap.size 0 (schX false dl a0 a1 a2 allDom allMon allDow) rfl rfl (there_b KS2.out 8 (Nat.le_refl 8)) (by kernel_rfl) (by simp [Value.oneCell']) ?_; have KS3 := hid (set_8 KS2.out (.bool false) (.int .i64 dl) (.int .u64 a0) (.int .u64 a1) (.int .u64 a2) (.int .u64 allDom) (.int .u64 allMon) (.int .u64 allDow)); have KT3 := hid (Blk.setCells_other (h := w.heap.size) (by omega) (schX false dl a0 a1 a2 allDom allMon allDow).toList 0 w2 KT2.out); have B3 := hid (below_setCells (g := w.heap.size) (Nat.le_refl _) (schX false dl a0 a1 a2 allDom allMon allDow).toList 0 w2 B2.out); generalize (w2.setCells w.heap.size 0 (schX false dl a0 a1 a2 allDom allMon allDow).toList) = w3 at KS3 KT3 B3 ⊢; have c7 := KS3.out.cell 7; have f7 := KS3.out.frozen 7))
      have KS4 := hid (show Blk (w3.setCell ⟨w.heap.size, 7, none⟩ (.int .u64 a5)) w.heap.size 24 (schE false dl (weekS a0 a1 a2 a5)) from KS3.out.set 7 (.int .u64 a5))
      rw [hSd] at KS4
      have KT4 := hid (KT3.out.other (show w.heap.size + 1 ≠ w.heap.size by omega) 7 (.int .u64 a5))
      have B4 := hid (below_set B3.out (Nat.le_refl _) 7 (.int .u64 a5))
      clear c7 f7 KS KT KS2 KT2 KS3 KT3 B B2 B3
      generalize (w3.setCell ⟨w.heap.size, 7, none⟩ (.int .u64 a5)) = w4 at KS4 KT4 B4 ⊢
      have c0 := KS4.out.cell 0
      have c1 := KS4.out.cell 1
      have c2 := KS4.out.cell 2
      have c3 := KS4.out.cell 3
      have c4 := KS4.out.cell 4
      have c5 := KS4.out.cell 5
      have c6 := KS4.out.cell 6
      have c7 := KS4.out.cell 7
      have t0 := KT4.out.cell 0
      have t1 := KT4.out.cell 1
      go_upto_region 5 with fail
      have KS5 := hid (KS4.out.alloc (.cells (icells u n) 26))
      have KT5 := hid (KT4.out.alloc (.cells (icells u n) 26))
      have KU5 := hid (Blk.new w4 26 (icells u n))
      have B5 := hid (show Below w.heap.size w (w4.alloc (.cells (icells u n) 26)) from bt B4.out (by go_grown))
      clear c0 c1 c2 c3 c4 c5 c6 c7 t0 t1 KS4 KT4 B4
      generalize (w4.alloc (.cells (icells u n) 26)) = w5 at KS5 KT5 KU5 B5 ⊢
      obtain ⟨g8, hg8⟩ : ∃ g, w4.heap.size = g := ⟨_, rfl⟩
      rw [hg8] at KU5 ⊢
      clear hg8
      have c0 := KS5.out.cell 0
      have c1 := KS5.out.cell 1
      have c2 := KS5.out.cell 2
      have c3 := KS5.out.cell 3
      have c4 := KS5.out.cell 4
      have c5 := KS5.out.cell 5
      have c6 := KS5.out.cell 6
      have c7 := KS5.out.cell 7
      have t0 := KT5.out.cell 0
      have t1 := KT5.out.cell 1
      go_wp2_with (first
        | (go_at_call 8; refine (C.out _).mono ?_; rintro e' w6 ⟨⟨b', rfl, hg'⟩, hb⟩; have B6 := hid (bt B5.out hb); have KS6 := hid (KS5.out.below hb); have KT6 := hid (KT5.out.below hb); have KU6 := hid (KU5.out.below hb); clear hb c0 c1 c2 c3 c4 c5 c6 c7 t0 t1; have u0 := KU6.out.cell 0; have u1 := KU6.out.cell 1; clear hg'; rcases b' with _ | _)
        | (go_at_call 17; refine (CG.out _).mono ?_; rintro e' w7 ⟨⟨b', rfl, hg'⟩, hb⟩; have B7 := hid (bt B6.out hb); have KS7 := hid (KS6.out.below hb); have KT7 := hid (KT6.out.below hb); have KU7 := hid (KU6.out.below hb); clear hb u0 u1; obtain rfl := HN.out b' hg'; clear hg'))
      all_goals
        go_ret
        first | exact ⟨rfl, B7.out⟩ | exact ⟨rfl, B6.out⟩
  · have HN := hid (show ∀ b : Bool, (b = true → goodT s n) → b = false from fun b h => by
      cases b
      · rfl
      · exact absurd (h rfl) hg)
    clear hS hm m0 hg
    go_enter Try.func7, Try.ntmps7
    go_upto_region 1 with fail
    generalize ((w.alloc (.cells (schX false dl a0 a1 a2 a3 a4 a5) 24)).alloc (.cells (icells s n) 26)) = w1 at B KS KT ⊢
    have c0 := KS.out.cell 0
    have c1 := KS.out.cell 1
    have c2 := KS.out.cell 2
    have c3 := KS.out.cell 3
    have c4 := KS.out.cell 4
    have c5 := KS.out.cell 5
    have c6 := KS.out.cell 6
    have c7 := KS.out.cell 7
    have t0 := KT.out.cell 0
    have t1 := KT.out.cell 1
    go_upto_region 4 with (first
      | (go_at_call 21; refine (CE.out _).mono ?_; rintro e' w2 ⟨rfl, hb⟩; have B2 := hid (bt B.out hb); have KS2 := hid (KS.out.below hb); have KT2 := hid (KT.out.below hb); clear hb c0 c1 c2 c3 c4 c5 c6 c7 t0 t1)
      | (refine wpList_store_mid rfl 24 (.tmp 3) (.tmp 17) rfl w.heap.size 0 (schX false dl a0 a1 a2 allDom allMon allDow) rfl rfl (there_b KS2.out 8 (Nat.le_refl 8)) (by kernel_rfl) (by simp [Value.oneCell']) ?_; have KS3 := hid (set_8 KS2.out (.bool false) (.int .i64 dl) (.int .u64 a0) (.int .u64 a1) (.int .u64 a2) (.int .u64 allDom) (.int .u64 allMon) (.int .u64 allDow)); have KT3 := hid (Blk.setCells_other (h := w.heap.size) (by omega) (schX false dl a0 a1 a2 allDom allMon allDow).toList 0 w2 KT2.out); have B3 := hid (below_setCells (g := w.heap.size) (Nat.le_refl _) (schX false dl a0 a1 a2 allDom allMon allDow).toList 0 w2 B2.out); generalize (w2.setCells w.heap.size 0 (schX false dl a0 a1 a2 allDom allMon allDow).toList) = w3 at KS3 KT3 B3 ⊢; have c7 := KS3.out.cell 7; have f7 := KS3.out.frozen 7))
    have KS4 := hid (show Blk (w3.setCell ⟨w.heap.size, 7, none⟩ (.int .u64 a5)) w.heap.size 24 (schE false dl (weekS a0 a1 a2 a5)) from KS3.out.set 7 (.int .u64 a5))
    rw [hSd] at KS4
    have KT4 := hid (KT3.out.other (show w.heap.size + 1 ≠ w.heap.size by omega) 7 (.int .u64 a5))
    have B4 := hid (below_set B3.out (Nat.le_refl _) 7 (.int .u64 a5))
    clear c7 f7 KS KT KS2 KT2 KS3 KT3 B B2 B3
    generalize (w3.setCell ⟨w.heap.size, 7, none⟩ (.int .u64 a5)) = w4 at KS4 KT4 B4 ⊢
    have c0 := KS4.out.cell 0
    have c1 := KS4.out.cell 1
    have c2 := KS4.out.cell 2
    have c3 := KS4.out.cell 3
    have c4 := KS4.out.cell 4
    have c5 := KS4.out.cell 5
    have c6 := KS4.out.cell 6
    have c7 := KS4.out.cell 7
    have t0 := KT4.out.cell 0
    have t1 := KT4.out.cell 1
    have lt0 := KS4.out.lt
    have lt1 := KT4.out.lt
    go_wp2_with (go_at_call 8; refine (C.out _).mono ?_; rintro e' w5 ⟨⟨b', rfl, hg'⟩, hb⟩; obtain rfl := HN.out b' hg'; have B5 := hid (bt (bt B4.out (by go_grown)) hb); clear hb hg')
    go_ret
    exact ⟨rfl, B5.out⟩
theorem fnCronWeekly_walk (e : Bool) (dl a0 a1 a2 a3 a4 a5 s n k : Int) (w : World) (_ : (Lit.int .i64 dl).wf = true) (h0 : (Lit.int .u64 a0).wf = true) (h1 : (Lit.int .u64 a1).wf = true) (h2 : (Lit.int .u64 a2).wf = true) (h3 : (Lit.int .u64 a3).wf = true) (h4 : (Lit.int .u64 a4).wf = true) (h5 : (Lit.int .u64 a5).wf = true) (hs : (Lit.int .i64 s).wf = true) (_ : (Lit.int .i64 n).wf = true) (_ : (Lit.int .i64 k).wf = true) :
    Calls Try.prog 7 #[.agg #[.bool e, .int .i64 dl, .int .u64 a0, .int .u64 a1, .int .u64 a2, .int .u64 a3, .int .u64 a4, .int .u64 a5], .agg #[.int .i64 s, .int .i64 n], .int .i64 k] w fun e w' => e = .returned (.bool true) ∧ Below w.heap.size w w' := by
  cases e
  · by_cases k1 : k < -200000
    · exact weekly_low dl a0 a1 a2 a3 a4 a5 s n k w k1
    · by_cases k2 : 200000 < k
      · exact weekly_high dl a0 a1 a2 a3 a4 a5 s n k w k2
      · exact weekly_near dl a0 a1 a2 a3 a4 a5 s n k w (weekS_ok (setsAll_wf h0 h1 h2 h3 h4 h5)) k1 k2
  · exact weekly_every dl a0 a1 a2 a3 a4 a5 s n k w
end Go.Proofs.Ytfmagbkcfeckhaa
