/- FnCronNextFixed. Walked. -/
import Derived.Test.YtfmagbkcfeckhaaLawN
set_option linter.unusedVariables false
set_option linter.unusedSimpArgs false
namespace Go.Proofs.Ytfmagbkcfeckhaa
open Go.RowKit

/-- Where the schedule is one of a delay: nothing is asked. -/
theorem fixed_every (dl : Int) (S : Sets) (s n m : Int) (w : World) :
    Calls Try.prog 4 #[.agg (schE true dl S), .agg (icells s n), .int .i64 m] w fun e w' => e = .returned (.bool true) ∧ Below w.heap.size w w' := by
  have B := hid (show Below w.heap.size w ((w.alloc (.cells (schE true dl S) 24)).alloc (.cells (icells s n) 26)) by go_grown)
  have C := hid (fun X => case_true dl S s n X)
  go_enter Try.func4, Try.ntmps4
  go_wp2_with (go_at_call 8; refine (C.out _).mono ?_; rintro e w2 ⟨rfl, hb⟩; have B2 := hid (bt B.out hb); clear hb)
  go_ret
  exact ⟨rfl, B2.out⟩

set_option maxHeartbeats 3200000 in
set_option maxRecDepth 100000 in
theorem fixed_core (dl : Int) (S : Sets) (s n m : Int) (w : World) (hS : setsAll S) :
    Calls Try.prog 4 #[.agg (schCells dl S), .agg (icells s n), .int .i64 m] w fun e w' => e = .returned (.bool true) ∧ Below w.heap.size w w' := by
  have z1 : (w.alloc (.cells (schCells dl S) 24)).heap.size = w.heap.size + 1 := by simp
  have B := hid (show Below w.heap.size w ((w.alloc (.cells (schCells dl S) 24)).alloc (.cells (icells s n) 26)) by go_grown)
  have KS := hid ((Blk.new w 24 (schCells dl S)).alloc (.cells (icells s n) 26))
  have KT := hid (Blk.new (w.alloc (.cells (schCells dl S) 24)) 26 (icells s n))
  rw [z1] at KT
  have C := hid (fun X => case_false dl S s n X)
  clear z1
  by_cases hm1 : m < -1440
  · go_enter Try.func4, Try.ntmps4
    go_upto_region 1 with fail
    generalize ((w.alloc (.cells (schCells dl S) 24)).alloc (.cells (icells s n) 26)) = w1 at B KS KT ⊢
    have c0 := KS.out.cell 0
    have c1 := KS.out.cell 1
    have c2 := KS.out.cell 2
    have c3 := KS.out.cell 3
    have c4 := KS.out.cell 4
    have c5 := KS.out.cell 5
    have c6 := KS.out.cell 6
    have c7 := KS.out.cell 7
    have t0 := KT.out.cell 0
    have t1 := KT.out.cell 1
    go_wp2_with (go_at_call 8; refine (C.out _).mono ?_; rintro e w2 ⟨⟨b, rfl, hg⟩, hb⟩; have B2 := hid (bt B.out hb); clear hb hg; rcases b with _ | _)
    all_goals
      go_ret
      exact ⟨rfl, B2.out⟩
  · by_cases hm2 : m > 1440
    · go_enter Try.func4, Try.ntmps4
      go_upto_region 1 with fail
      generalize ((w.alloc (.cells (schCells dl S) 24)).alloc (.cells (icells s n) 26)) = w1 at B KS KT ⊢
      have c0 := KS.out.cell 0
      have c1 := KS.out.cell 1
      have c2 := KS.out.cell 2
      have c3 := KS.out.cell 3
      have c4 := KS.out.cell 4
      have c5 := KS.out.cell 5
      have c6 := KS.out.cell 6
      have c7 := KS.out.cell 7
      have t0 := KT.out.cell 0
      have t1 := KT.out.cell 1
      go_wp2_with (go_at_call 8; refine (C.out _).mono ?_; rintro e w2 ⟨⟨b, rfl, hg⟩, hb⟩; have B2 := hid (bt B.out hb); clear hb hg; rcases b with _ | _)
      all_goals
        go_ret
        exact ⟨rfl, B2.out⟩
    · by_cases hg : goodT s n
      · obtain ⟨off, hoff⟩ : ∃ off, 60 * m = off := ⟨_, rfl⟩
        have o1 : -86400 ≤ off := by omega
        have o2 : off ≤ 86400 := by omega
        have o3 : off % 60 = 0 := by omega
        obtain ⟨x, b, ha⟩ := ans_ex S (s + off) off (by have := hg.1; omega) (by have := hg.2.1; omega)
        have CX := hid (fun X => cfixed_any off X o1 o2)
        have CF := hid (fun X => fieldsOf_any dl S hS X)
        have CR := hid (fun o d h y X hz => ref_fix S s n off x b o d h y X hg o1 o2 ha hz)
        have CI := hid (fun o d h y X hz => impl_fix dl S s n off x b o d h y X hS hg o1 o2 o3 ha hz)
        have v1 : IntKind.i64.wrap (60 * m) = off := by rw [hoff]; exact IntWalk.i64_in _ (by omega)
        clear ha hg o1 o2 o3 hoff hS
        go_enter Try.func4, Try.ntmps4
        go_upto_region 1 with fail
        generalize ((w.alloc (.cells (schCells dl S) 24)).alloc (.cells (icells s n) 26)) = w1 at B KS KT ⊢
        have c0 := KS.out.cell 0
        have c1 := KS.out.cell 1
        have c2 := KS.out.cell 2
        have c3 := KS.out.cell 3
        have c4 := KS.out.cell 4
        have c5 := KS.out.cell 5
        have c6 := KS.out.cell 6
        have c7 := KS.out.cell 7
        have t0 := KT.out.cell 0
        have t1 := KT.out.cell 1
        go_upto_region 4 with (first
          | (go_at_call 8; refine (C.out _).mono ?_; rintro e w2 ⟨⟨b', rfl, hg'⟩, hb⟩; have B2 := hid (bt B.out hb); have KS2 := hid (KS.out.below hb); have KT2 := hid (KT.out.below hb); clear hb hg'; rcases b' with _ | _)
          | (go_at_call 14; refine (CX.out _).mono ?_; rintro e w3 ⟨⟨o, d, h, y, rfl, hz⟩, hb⟩; have B3 := hid (bt B2.out hb); have KS3 := hid (KS2.out.below hb); have KT3 := hid (KT2.out.below hb); have HZ := hid hz; clear hb hz))
        · go_wp2_with fail
          go_ret
          exact ⟨rfl, B2.out⟩
        have KS4 := hid (KS3.out.alloc (.cells (zcells o d h y 1 1 1 1 1 1 1 1) 34))
        have KT4 := hid (KT3.out.alloc (.cells (zcells o d h y 1 1 1 1 1 1 1 1) 34))
        have KZ4 := hid (Blk.new w3 34 (zcells o d h y 1 1 1 1 1 1 1 1))
        have HZ4 := hid (HZ.out.below (w' := w3.alloc (.cells (zcells o d h y 1 1 1 1 1 1 1 1) 34)) (by go_grown))
        have B4 := hid (show Below w.heap.size w (w3.alloc (.cells (zcells o d h y 1 1 1 1 1 1 1 1) 34)) from bt B3.out (by go_grown))
        clear c0 c1 c2 c3 c4 c5 c6 c7 t0 t1 KS KT KS2 KT2 KS3 KT3 HZ B2 B3 B
        generalize (w3.alloc (.cells (zcells o d h y 1 1 1 1 1 1 1 1) 34)) = w4 at KS4 KT4 KZ4 HZ4 B4 ⊢
        obtain ⟨g4, hg4⟩ : ∃ g, w3.heap.size = g := ⟨_, rfl⟩
        rw [hg4] at KZ4 ⊢
        clear hg4
        have CN := hid (fun X (hX : Below w4.heap.size w4 X) => CR.out o d h y X (HZ4.out.below hX))
        have CJ := hid (fun X (hX : Below w4.heap.size w4 X) => CI.out o d h y X (HZ4.out.below hX))
        clear CR CI HZ4
        go_cut [8, 9] (fun pv bv wx => ∃ g, pv = .pointer (some ⟨g, 0, none⟩) ∧ bv = .bool b ∧ Blk wx g 26 (icells x 0) ∧ w4.heap.size ≤ g ∧ Below w4.heap.size w4 wx)
        case first =>
          go_region_held3 (fun w' => w'.cell? ⟨w.heap.size, 0, none⟩ = some (.bool false) ∧ w'.cell? ⟨w.heap.size, 1, none⟩ = some (.int .i64 dl) ∧ w'.cell? ⟨w.heap.size, 2, none⟩ = some (.int .u64 S.sec) ∧ w'.cell? ⟨w.heap.size, 3, none⟩ = some (.int .u64 S.min) ∧ w'.cell? ⟨w.heap.size, 4, none⟩ = some (.int .u64 S.hour) ∧ w'.cell? ⟨w.heap.size, 5, none⟩ = some (.int .u64 S.dom) ∧ w'.cell? ⟨w.heap.size, 6, none⟩ = some (.int .u64 S.month) ∧ w'.cell? ⟨w.heap.size, 7, none⟩ = some (.int .u64 S.dow) ∧
            w'.cell? ⟨w.heap.size + 1, 0, none⟩ = some (.int .i64 s) ∧ w'.cell? ⟨w.heap.size + 1, 1, none⟩ = some (.int .i64 n) ∧ w'.cell? ⟨g4, 0, none⟩ = some (.slice o 1 1) ∧ w'.cell? ⟨g4, 1, none⟩ = some (.slice d 1 1) ∧ w'.cell? ⟨g4, 2, none⟩ = some (.slice h 1 1) ∧ w'.cell? ⟨g4, 3, none⟩ = some (.slice y 1 1))
            ((refine keepN KS4.out KT4.out KZ4.out ?_; first | (go_grown; done) | (exact H3.out; done) | (exact H3.out.alloc H3.out.size _; done) | (exact H2.out; done) | (exact H2.out.alloc H2.out.size _; done) | (exact below_set2 H3.out (Nat.le_refl _) _ _; done) | (exact below_set2 H3.out H2.out.size _ _; done) | (exact below_set2 (H3.out.alloc H3.out.size _) H3.out.size _ _; done)))
            (first
              | (go_at_call 16; refine (CF.out _).mono ?_; rintro e' w5 ⟨rfl, hb⟩; have H2 := hid (bt (X := w4) (by go_grown) hb); (first | have A := hid (Blk.below (w' := w5) (show Blk (w4.alloc (.cells (icells 0 0) 26)).drew w4.heap.size 26 (icells 0 0) from Blk.new w4 26 _) hb) | skip); clear hb)
              | (go_at_call 15; refine (CN.out _ (by first | exact H2.out | exact H2.out.alloc H2.out.size _)).mono ?_; rintro e' w6 ⟨rfl, hb⟩; have H3 := hid (bt (X := w4) (by first | exact H2.out | exact H2.out.alloc H2.out.size _) hb); (first | have A := hid (Blk.below (Blk.new _ _ _) hb) | have A := hid (Blk.below A.out hb) | skip); (first | (have a0 := A.out.cell 0; have a1 := A.out.cell 1; have f0 := A.out.frozen 0; have f1 := A.out.frozen 1) | skip); clear hb))
          all_goals
            go_wp2_with fail
            go_meet
            first
              | exact ⟨_, rfl, rfl, Blk.new w6 _ _, H3.out.size, H3.out.alloc H3.out.size _⟩
              | exact ⟨_, rfl, rfl, (A.out.set 0 _).set 1 _, H2.out.size, below_set2 H3.out H2.out.size _ _⟩
              | exact ⟨_, rfl, rfl, (A.out.set 0 _).set 1 _, Nat.le_refl _, below_set2 H3.out (Nat.le_refl _) _ _⟩
        case rest =>
          obtain ⟨g, rfl, rfl, hbk, hle, hbw⟩ := hcut
          have KG := hid hbk
          have BW := hid hbw
          have KS5 := hid (KS4.out.below hbw)
          have KT5 := hid (KT4.out.below hbw)
          have KZ5 := hid (KZ4.out.below hbw)
          clear hbk hle hbw
          have c0 := KS5.out.cell 0
          have c1 := KS5.out.cell 1
          have c2 := KS5.out.cell 2
          have c3 := KS5.out.cell 3
          have c4 := KS5.out.cell 4
          have c5 := KS5.out.cell 5
          have c6 := KS5.out.cell 6
          have c7 := KS5.out.cell 7
          have t0 := KT5.out.cell 0
          have t1 := KT5.out.cell 1
          have y0 := KZ5.out.cell 0
          have y1 := KZ5.out.cell 1
          have y2 := KZ5.out.cell 2
          have y3 := KZ5.out.cell 3
          go_wp2_with (go_at_call 9; refine (CJ.out _ BW.out).mono ?_; rintro e w7 ⟨rfl, hb⟩; have q0 := (KG.out.below hb).cell 0; have q1 := (KG.out.below hb).cell 1; have B7 := hid (bt (bt B4.out BW.out) hb); have LT := (KG.out.below hb).lt; clear hb c0 c1 c2 c3 c4 c5 c6 c7 t0 t1 y0 y1 y2 y3)
          go_ret
          exact ⟨rfl, bt B7.out (by go_grown)⟩
      · have NG := hid hg
        have HN : ∀ b : Bool, (b = true → goodT s n) → b = false := fun b h => by
          cases b
          · rfl
          · exact absurd (h rfl) NG.out
        have HN := hid HN
        go_enter Try.func4, Try.ntmps4
        go_upto_region 1 with fail
        generalize ((w.alloc (.cells (schCells dl S) 24)).alloc (.cells (icells s n) 26)) = w1 at B KS KT ⊢
        have c0 := KS.out.cell 0
        have c1 := KS.out.cell 1
        have c2 := KS.out.cell 2
        have c3 := KS.out.cell 3
        have c4 := KS.out.cell 4
        have c5 := KS.out.cell 5
        have c6 := KS.out.cell 6
        have c7 := KS.out.cell 7
        have t0 := KT.out.cell 0
        have t1 := KT.out.cell 1
        go_wp2_with (go_at_call 8; refine (C.out _).mono ?_; rintro e w2 ⟨⟨b, rfl, hg⟩, hb⟩; obtain rfl := HN.out b hg; have B2 := hid (bt B.out hb); clear hb hg)
        go_ret
        exact ⟨rfl, B2.out⟩
theorem fnCronNextFixed_walk (e : Bool) (dl a0 a1 a2 a3 a4 a5 s n m : Int) (w : World) (_ : (Lit.int .i64 dl).wf = true) (h0 : (Lit.int .u64 a0).wf = true) (h1 : (Lit.int .u64 a1).wf = true) (h2 : (Lit.int .u64 a2).wf = true) (h3 : (Lit.int .u64 a3).wf = true) (h4 : (Lit.int .u64 a4).wf = true) (h5 : (Lit.int .u64 a5).wf = true) (_ : (Lit.int .i64 s).wf = true) (_ : (Lit.int .i64 n).wf = true) (_ : (Lit.int .i64 m).wf = true) :
    Calls Try.prog 4 #[.agg #[.bool e, .int .i64 dl, .int .u64 a0, .int .u64 a1, .int .u64 a2, .int .u64 a3, .int .u64 a4, .int .u64 a5], .agg #[.int .i64 s, .int .i64 n], .int .i64 m] w fun e w' => e = .returned (.bool true) ∧ Below w.heap.size w w' := by
  cases e
  · exact fixed_core dl ⟨a0, a1, a2, a3, a4, a5⟩ s n m w (setsAll_wf h0 h1 h2 h3 h4 h5)
  · exact fixed_every dl ⟨a0, a1, a2, a3, a4, a5⟩ s n m w
end Go.Proofs.Ytfmagbkcfeckhaa
