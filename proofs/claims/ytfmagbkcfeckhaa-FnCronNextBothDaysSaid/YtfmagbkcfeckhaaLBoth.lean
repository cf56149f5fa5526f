/- FnCronNextBothDays. Walked. (wip/gen/gen_lboth.py) -/
import Derived.Test.YtfmagbkcfeckhaaLawI
set_option linter.unusedVariables false
set_option linter.unusedSimpArgs false
namespace Go.Proofs.Ytfmagbkcfeckhaa
open Go.RowKit

theorem both_every (dl : Int) (S : Sets) (s n : Int) (w : World) :
    Calls Try.prog 3 #[.agg (schE true dl S), .agg (icells s n)] w fun e w' => e = .returned (.bool true) ∧ Below w.heap.size w w' := by
  have B := hid (show Below w.heap.size w ((w.alloc (.cells (schE true dl S) 24)).alloc (.cells (icells s n) 26)) by go_grown)
  have C := hid (fun X => case_true dl S s n X)
  go_enter Try.func3, Try.ntmps3
  go_wp2_with (go_at_call 8; refine (C.out _).mono ?_; rintro e w2 ⟨rfl, hb⟩; have B2 := hid (bt B.out hb); clear hb)
  go_ret
  exact ⟨rfl, B2.out⟩

set_option maxHeartbeats 3200000 in
set_option maxRecDepth 100000 in
theorem both_core (dl : Int) (S : Sets) (s n : Int) (w : World) (hS : setsAll S) :
    Calls Try.prog 3 #[.agg (schCells dl S), .agg (icells s n)] w fun e w' => e = .returned (.bool true) ∧ Below w.heap.size w w' := by
  have z1 : (w.alloc (.cells (schCells dl S) 24)).heap.size = w.heap.size + 1 := by simp
  have B := hid (show Below w.heap.size w ((w.alloc (.cells (schCells dl S) 24)).alloc (.cells (icells s n) 26)) by go_grown)
  have KS := hid ((Blk.new w 24 (schCells dl S)).alloc (.cells (icells s n) 26))
  have KT := hid (Blk.new (w.alloc (.cells (schCells dl S) 24)) 26 (icells s n))
  rw [z1] at KT
  have C := hid (fun X => case_false dl S s n X)
  clear z1
  by_cases hg : goodT s n
  · obtain ⟨x, b, ha⟩ := ans_ex S s 0 (by have := hg.1; omega) (by have := hg.2.1; omega)
    have CU := hid (fun X => cutc_any X)
    have CI := hid (fun X => impl_utc dl S s n x b X hS hg ha)
    have CN := hid (fun X => none_utc dl S s n x b X hS hg ha)
    have HA := hid ha
    have HG := hid hg
    have OS := hid (or_star S.dom S.dow (hS 3 (by omega)).1 (hS 3 (by omega)).2 (hS 5 (by omega)).1 (hS 5 (by omega)).2)
    obtain ⟨z, hz⟩ : ∃ z, (bits .and .u64 (bits .or .u64 S.dom S.dow) 9223372036854775808 == 0) = z := ⟨_, rfl⟩
    rw [hz] at OS
    have HS := hid hS
    clear ha hg hS
    go_enter Try.func3, Try.ntmps3
    go_upto_region 1 with fail
    generalize ((w.alloc (.cells (schCells dl S) 24)).alloc (.cells (icells s n) 26)) = w1 at B KS KT ⊢
    have c0 := KS.out.cell 0
    have c1 := KS.out.cell 1
    have c2 := KS.out.cell 2
    have c3 := KS.out.cell 3
    have c4 := KS.out.cell 4
    have c5 := KS.out.cell 5
    have c6 := KS.out.cell 6
    have c7 := KS.out.cell 7
    have t0 := KT.out.cell 0
    have t1 := KT.out.cell 1
    rcases z with _ | _
    · go_upto_region 3 with (first
        | (go_at_call 8; refine (C.out _).mono ?_; rintro e w2 ⟨⟨b', rfl, hg'⟩, hb⟩; have B2 := hid (bt B.out hb); have KS2 := hid (KS.out.below hb); have KT2 := hid (KT.out.below hb); clear hb c0 c1 c2 c3 c4 c5 c6 c7 t0 t1; have c5 := KS2.out.cell 5; have c7 := KS2.out.cell 7; clear hg'; rcases b' with _ | _))
      · go_wp2_with fail
        go_ret
        exact ⟨rfl, B2.out⟩
      clear hz c5 c7
      go_cut [5, 6] (fun pv bv wx => ∃ g, pv = .pointer (some ⟨g, 0, none⟩) ∧ bv = .bool b ∧ Blk wx g 26 (icells x 0) ∧ w2.heap.size ≤ g ∧ Below w2.heap.size w2 wx)
      case first =>
        go_region_held3 (fun w' => w'.cell? ⟨w.heap.size, 0, none⟩ = some (.bool false) ∧ w'.cell? ⟨w.heap.size, 1, none⟩ = some (.int .i64 dl) ∧ w'.cell? ⟨w.heap.size, 2, none⟩ = some (.int .u64 S.sec) ∧ w'.cell? ⟨w.heap.size, 3, none⟩ = some (.int .u64 S.min) ∧ w'.cell? ⟨w.heap.size, 4, none⟩ = some (.int .u64 S.hour) ∧ w'.cell? ⟨w.heap.size, 5, none⟩ = some (.int .u64 S.dom) ∧ w'.cell? ⟨w.heap.size, 6, none⟩ = some (.int .u64 S.month) ∧ w'.cell? ⟨w.heap.size, 7, none⟩ = some (.int .u64 S.dow) ∧ w'.cell? ⟨w.heap.size + 1, 0, none⟩ = some (.int .i64 s) ∧ w'.cell? ⟨w.heap.size + 1, 1, none⟩ = some (.int .i64 n))
          ((refine keepM KS2.out KT2.out ?_; first | (go_grown; done) | (exact H3.out; done) | (exact H3.out.alloc H3.out.size _; done) | (exact H2.out; done) | (exact H2.out.alloc H2.out.size _; done) | (exact below_set2 H3.out (Nat.le_refl _) _ _; done) | (exact below_set2 H3.out H2.out.size _ _; done) | (exact below_set2 (H3.out.alloc H3.out.size _) H3.out.size _ _; done)))
          (first
            | (go_at_call 10; refine (CU.out _).mono ?_; rintro e' w5 ⟨rfl, hb⟩; have H2 := hid (bt (X := w2) (by go_grown) hb); (first | have A := hid (Blk.below (w' := w5) (show Blk (w2.alloc (.cells (icells 0 0) 26)).drew w2.heap.size 26 (icells 0 0) from Blk.new w2 26 _) hb) | skip); clear hb)
            | (go_at_call 9; refine (CI.out _).mono ?_; rintro e' w6 ⟨rfl, hb⟩; have H3 := hid (bt (X := w2) (by first | exact H2.out | exact H2.out.alloc H2.out.size _) hb); (first | have A := hid (Blk.below (Blk.new _ _ _) hb) | have A := hid (Blk.below A.out hb) | skip); (first | (have a0 := A.out.cell 0; have a1 := A.out.cell 1; have f0 := A.out.frozen 0; have f1 := A.out.frozen 1) | skip); clear hb))
        all_goals
          go_wp2_with fail
          go_meet
          first
            | exact ⟨_, rfl, rfl, Blk.new w6 _ _, H3.out.size, H3.out.alloc H3.out.size _⟩
            | exact ⟨_, rfl, rfl, (A.out.set 0 _).set 1 _, H2.out.size, below_set2 H3.out H2.out.size _ _⟩
            | exact ⟨_, rfl, rfl, (A.out.set 0 _).set 1 _, Nat.le_refl _, below_set2 H3.out (Nat.le_refl _) _ _⟩
      case rest =>
        obtain ⟨g, rfl, rfl, hbk, hle, hbw⟩ := hcut
        have B3 := hid (bt B2.out hbw)
        have G3 := hid hbk
        have KS3 := hid (KS2.out.below hbw)
        have KT3 := hid (KT2.out.below hbw)
        clear hbk hle hbw
        rcases b with _ | _
        · go_upto_region 5 with fail
          have a0 : ∀ d os, (Go.Sort.grow (redrawn wc d) os).cell? ⟨w.heap.size, 0, none⟩ = some (.bool false) := fun d os => (blk_gr KS3.out d os).cell 0
          have a1 : ∀ d os, (Go.Sort.grow (redrawn wc d) os).cell? ⟨w.heap.size, 1, none⟩ = some (.int .i64 dl) := fun d os => (blk_gr KS3.out d os).cell 1
          have a2 : ∀ d os, (Go.Sort.grow (redrawn wc d) os).cell? ⟨w.heap.size, 2, none⟩ = some (.int .u64 S.sec) := fun d os => (blk_gr KS3.out d os).cell 2
          have a3 : ∀ d os, (Go.Sort.grow (redrawn wc d) os).cell? ⟨w.heap.size, 3, none⟩ = some (.int .u64 S.min) := fun d os => (blk_gr KS3.out d os).cell 3
          have a4 : ∀ d os, (Go.Sort.grow (redrawn wc d) os).cell? ⟨w.heap.size, 4, none⟩ = some (.int .u64 S.hour) := fun d os => (blk_gr KS3.out d os).cell 4
          have a5 : ∀ d os, (Go.Sort.grow (redrawn wc d) os).cell? ⟨w.heap.size, 5, none⟩ = some (.int .u64 S.dom) := fun d os => (blk_gr KS3.out d os).cell 5
          have a6 : ∀ d os, (Go.Sort.grow (redrawn wc d) os).cell? ⟨w.heap.size, 6, none⟩ = some (.int .u64 S.month) := fun d os => (blk_gr KS3.out d os).cell 6
          have a7 : ∀ d os, (Go.Sort.grow (redrawn wc d) os).cell? ⟨w.heap.size, 7, none⟩ = some (.int .u64 S.dow) := fun d os => (blk_gr KS3.out d os).cell 7
          have k0 : ∀ d os, (Go.Sort.grow (redrawn wc d) os).cell? ⟨w.heap.size + 1, 0, none⟩ = some (.int .i64 s) := fun d os => (blk_gr KT3.out d os).cell 0
          have k1 : ∀ d os, (Go.Sort.grow (redrawn wc d) os).cell? ⟨w.heap.size + 1, 1, none⟩ = some (.int .i64 n) := fun d os => (blk_gr KT3.out d os).cell 1
          have Q0 := hid (fun d os => Calls.regrown_of (CU.out (Go.Sort.grow (redrawn wc d) os)))
          have Q1 := hid (fun d os => Calls.regrown_of (CN.out (Go.Sort.grow (redrawn wc d) os)))
          refine wp_region_quiet_below (by kernel_rfl) (by kernel_rfl) ?_
          repeat (go_big_quiet_step ((first | (go_at_call 10; exact Q0.out _ _) | (go_at_call 11; exact Q1.out _ _) | fail)))
          refine wpQuiet_nil ?_
          intro _ hw'
          obtain ⟨⟨dq, osq⟩, hw''⟩ := hw'
          subst hw''
          have B7 := hid (bt B3.out (below_regrown wc dq osq))
          clear a0 a1 a2 a3 a4 a5 a6 a7 k0 k1 Q0 Q1
          generalize Go.Sort.grow (redrawn wc dq) osq = w7 at B7 ⊢
          go_wp2_with fail
          go_ret
          exact ⟨rfl, B7.out⟩
        · obtain ⟨x1, x2, M, D, H, Mi, Se, eM, eD, eH, eMi, eSe, k1, k2, k3, k4, k5, k6, M63, D63, H63, Mi63, Se63⟩ := ans_bits HS.out HG.out.1 HG.out.2.1 HA.out (by
            have := OS.out
            rcases h1 : starB S.dom with _ | _
            · rcases h2 : starB S.dow with _ | _
              · rw [h1, h2] at this
                cases this
              · exact .inr rfl
            · exact .inl rfl)
          have CV := hid (fun X => civilU_any x 0 X (by have := HG.out.1; omega) x2)
          obtain ⟨Y, hY⟩ : ∃ Y, yP (x / 86400) = Y := ⟨_, rfl⟩
          obtain ⟨W, hW⟩ : ∃ W, wdN (x / 86400) = W := ⟨_, rfl⟩
          rw [eM, eD, eH, eMi, eSe, hY, hW] at CV
          rw [hW] at k2
          have W63 : W < 63 := by rw [← hW]; exact Nat.lt_of_le_of_lt (wdN_le _) (by decide)
          have M64 : M ≤ 64 := by omega
          have D64 : D ≤ 64 := by omega
          have H64 : H ≤ 64 := by omega
          have Mi64 : Mi ≤ 64 := by omega
          have Se64 : Se ≤ 64 := by omega
          have W64 : W ≤ 64 := by omega
          clear eM eD eH eMi eSe hY hW
          go_upto_region 6 with fail
          have CVX := CV
          go_cut [7] (fun pv wx => ∃ g7, pv = .pointer (some ⟨g7, 0, none⟩) ∧ Blk wx g7 38 (vcells8 Y (M : Nat) (D : Nat) (H : Nat) (Mi : Nat) (Se : Nat) 0 (W : Nat)) ∧ wc.heap.size ≤ g7 ∧ Below wc.heap.size wc wx)
          case first =>
            refine wp_region_inv (J6 (fun x34 x35 x36 x7 => { tmps := List.toArray (Value.agg (schCells dl S) :: Value.agg (icells s n) :: Value.pointer (some ⟨w.heap.size, 0, none⟩) :: Value.pointer (some ⟨w.heap.size + 1, 0, none⟩) :: Value.bool false :: Value.pointer (some ⟨g, 0, none⟩) :: Value.bool true :: x7 :: u8 :: u9 :: u10 :: u11 :: u12 :: u13 :: u14 :: u15 :: u16 :: u17 :: u18 :: u19 :: u20 :: u21 :: u22 :: u23 :: u24 :: u25 :: u26 :: u27 :: Value.bool true :: Value.bool false :: u30 :: u31 :: u32 :: u33 :: x34 :: x35 :: x36 :: u37 :: u38 :: u39 :: u40 :: u41 :: u42 :: u43 :: u44 :: u45 :: u46 :: u47 :: u48 :: u49 :: u50 :: u51 :: u52 :: u53 :: u54 :: u55 :: u56 :: u57 :: u58 :: u59 :: u60 :: u61 :: u62 :: u63 :: u64 :: u65 :: u66 :: u67 :: u68 :: u69 :: u70 :: u71 :: u72 :: u73 :: u74 :: u75 :: u76 :: u77 :: u78 :: u79 :: u80 :: u81 :: u82 :: u83 :: u84 :: u85 :: u86 :: u87 :: u88 :: u89 :: u90 :: u91 :: u92 :: u93 :: []), defers := [] }) wc.heap.size wc (icells x 0) (zcells none none none none 0 0 0 0 0 0 0 0) (vcells8 Y (M : Nat) (D : Nat) (H : Nat) (Mi : Nat) (Se : Nat) 0 (W : Nat)) 38) (by kernel_rfl) (by kernel_rfl) ?_ ?_ ?_
            · refine ⟨u34, u35, u36, undef, ?_, ?_, Nat.le_refl _, ?_⟩
              · rfl
              · exact ⟨rfl, rfl, rfl, Nat.le_refl _, fun k _ => rfl⟩
              · simp [Array.getD_eq_getD_getElem?]
            · rintro got a' wr i op ⟨x34, x35, x36, x7, rfl, hb, hbs, g0, g1, g2, g3, g43⟩ hz ho hi hd
              dsimp only
              have hlt : i < 5 := (List.getElem?_eq_some_iff.1 ho).1
              have kg := hid (G3.out.below hb)
              rcases (by clear hd ho hi hz; omega : i = 0 ∨ i = 1 ∨ i = 2 ∨ i = 3 ∨ i = 4) with rfl | rfl | rfl | rfl | rfl
              · obtain rfl := Option.some.inj ho
                have l0 := kg.out.cell 0
                have l1 := kg.out.cell 1
                have HB := hid hb; have HS := hid hbs; have HI := hid hi; have GG := hid (And.intro g0 (And.intro g1 (And.intro g2 (And.intro g3 g43)))); clear ho hd hz hi hlt g0 g1 g2 g3 g43 hb hbs
                go_wp2_with fail
                obtain ⟨g0, g1, g2, g3, g43⟩ := GG.out; have hi := HI.out
                exact ⟨_, x35, x36, x7, rfl, HB.out, HS.out, fun _ => rfl, fun h => g1 ((got_ne (by decide)).symm.trans h), fun h => g2 ((got_ne (by decide)).symm.trans h), fun h => (g3 ((got_ne (by decide)).symm.trans h)).keep (got_ne (by decide)) (fun _ _ h => h), fun h => (got_ne (by decide)).trans (g43 ((got_ne (by decide)).symm.trans h))⟩
              · obtain rfl := Option.some.inj ho
                have HB := hid hb; have HS := hid hbs; have HI := hid hi; have GG := hid (And.intro g0 (And.intro g1 (And.intro g2 (And.intro g3 g43)))); clear ho hd hz hi hlt g0 g1 g2 g3 g43 hb hbs
                go_wp2_with (go_at_call 10; refine (CU.out _).mono ?_; rintro e w6 ⟨rfl, hb6⟩; have H6 := hid hb6; clear hb6)
                obtain ⟨g0, g1, g2, g3, g43⟩ := GG.out; have hi := HI.out
                exact ⟨x34, _, x36, x7, rfl, bt (X := wc) HB.out H6.out, Nat.le_trans HS.out H6.out.size, fun h => g0 ((got_ne (by decide)).symm.trans h), fun _ => rfl, fun h => g2 ((got_ne (by decide)).symm.trans h), fun h => (g3 ((got_ne (by decide)).symm.trans h)).keep (got_ne (by decide)) (fun _ _ h => h.below H6.out), fun h => (got_ne (by decide)).trans (g43 ((got_ne (by decide)).symm.trans h))⟩
              · obtain rfl := Option.some.inj ho
                obtain rfl := g0 (hd { on := 0, ground := .data } (by simp) rfl)
                obtain rfl := g1 (hd { on := 1, ground := .data } (by simp) rfl)
                have HB := hid hb; have HS := hid hbs; have HI := hid hi; have GG := hid (And.intro g0 (And.intro g1 (And.intro g2 (And.intro g3 g43)))); clear ho hd hz hi hlt g0 g1 g2 g3 g43 hb hbs
                go_wp2_with (go_at_call 12; refine (CVX.out wr).mono ?_; rintro e w6 ⟨rfl, hb6⟩; have H6 := hid hb6; clear hb6)
                obtain ⟨g0, g1, g2, g3, g43⟩ := GG.out; have hi := HI.out
                exact ⟨_, _, _, x7, rfl, bt (X := wc) HB.out H6.out, Nat.le_trans HS.out H6.out.size, fun _ => rfl, fun _ => rfl, fun _ => rfl, fun h => (g3 ((got_ne (by decide)).symm.trans h)).keep (got_ne (by decide)) (fun _ _ h => h.below H6.out), fun h => (got_ne (by decide)).trans (g43 ((got_ne (by decide)).symm.trans h))⟩
              · obtain rfl := Option.some.inj ho
                have HB := hid hb; have HS := hid hbs; have HI := hid hi; have GG := hid (And.intro g0 (And.intro g1 (And.intro g2 (And.intro g3 g43)))); clear ho hd hz hi hlt g0 g1 g2 g3 g43 hb hbs
                go_wp2_with fail
                obtain ⟨g0, g1, g2, g3, g43⟩ := GG.out; have hi := HI.out
                exact ⟨x34, x35, x36, _, rfl, HB.out.alloc HS.out _, by rw [World.size_alloc]; exact Nat.le_succ_of_le HS.out, fun h => g0 ((got_ne (by decide)).symm.trans h), fun h => g1 ((got_ne (by decide)).symm.trans h), fun h => g2 ((got_ne (by decide)).symm.trans h), fun _ => ⟨wr.heap.size, rfl, HS.out, ⟨_, _, _, _, _, _, _, _, Blk.new wr _ _⟩, fun h => (gotNot hi (g43 ((got_ne (by decide)).symm.trans h))).elim⟩, fun _ => gotNew hi⟩
              · obtain rfl := Option.some.inj ho
                obtain rfl := g2 (hd { on := 2, ground := .data } (by simp) rfl)
                have d3 := hd { on := 3, ground := .data } (by simp) rfl
                obtain ⟨g7, rfl, le7, ⟨y0, y1, y2, y3, y4, y5, y6, y7, hy⟩, _⟩ := g3 d3
                have t0 := hid (there_b hy 8 (Nat.le_refl 8))
                have SB := hid (set_b8 hy Y (M : Nat) (D : Nat) (H : Nat) (Mi : Nat) (Se : Nat) 0 (W : Nat))
                have BB := hid (below_b8 hb le7 Y (M : Nat) (D : Nat) (H : Nat) (Mi : Nat) (Se : Nat) 0 (W : Nat))
                have SZ := hid (show (wr.setCells g7 0 (vcells8 Y (M : Nat) (D : Nat) (H : Nat) (Mi : Nat) (Se : Nat) 0 (W : Nat)).toList).heap.size = wr.heap.size by simp [World.setCells, World.setCell])
                have D3 := hid d3
                have LE7 := hid le7
                clear hy d3 le7
                have HB := hid hb; have HS := hid hbs; have HI := hid hi; have GG := hid (And.intro g0 (And.intro g1 (And.intro g2 (And.intro g3 g43)))); clear ho hd hz hi hlt g0 g1 g2 g3 g43 hb hbs
                refine wpList_store_mid rfl 38 (.tmp 7) (.tmp 36) rfl g7 0 (vcells8 Y (M : Nat) (D : Nat) (H : Nat) (Mi : Nat) (Se : Nat) 0 (W : Nat)) rfl rfl t0.out (by kernel_rfl) (by simp [Value.oneCell']) ?_
                generalize (wr.setCells g7 0 (vcells8 Y (M : Nat) (D : Nat) (H : Nat) (Mi : Nat) (Se : Nat) 0 (W : Nat)).toList) = w9 at SB BB SZ ⊢
                refine wpList_nil ?_
                obtain ⟨g0, g1, g2, g3, g43⟩ := GG.out; have hi := HI.out
                exact ⟨x34, x35, _, _, rfl, BB.out, by rw [SZ.out]; exact HS.out, fun h => g0 ((got_ne (by decide)).symm.trans h), fun h => g1 ((got_ne (by decide)).symm.trans h), fun _ => rfl, fun _ => ⟨g7, rfl, LE7.out, ⟨_, _, _, _, _, _, _, _, SB.out⟩, fun _ => SB.out⟩, fun _ => (got_ne (by decide)).trans D3.out⟩
            · rintro got a' wr ⟨x34, x35, x36, x7, rfl, hb, hbs, g0, g1, g2, g3, g43⟩ hall
              have h3 := hall 3 (by decide)
              have h4 := hall 4 (by decide)
              obtain ⟨g7, rfl, le7, _, hv⟩ := g3 h3
              have HV := hid (hv h4)
              have HB := hid hb
              clear hb hbs g0 g1 g2 g3 g43 h3 h4 hall hv
              dsimp only
              go_wp2_with fail
              go_meet
              exact ⟨_, rfl, HV.out, le7, HB.out⟩
          case rest =>
            obtain ⟨g7, rfl, hbk, hle, hbw⟩ := hcut
            have B4 := hid (bt B3.out hbw)
            have G4 := hid (G3.out.below hbw)
            have V4 := hid hbk
            have KS4 := hid (KS3.out.below hbw)
            have KT4 := hid (KT3.out.below hbw)
            clear hbk hle hbw
            have CB := hid (fun X => before_any s n x 0 X)
            rw [show befB s n x 0 = true by unfold befB; rw [decide_eq_true x1, Bool.true_or]] at CB
            have t0 := KT4.out.cell 0
            have t1 := KT4.out.cell 1
            have g0 := G4.out.cell 0
            have g1 := G4.out.cell 1
            have M0 : (0 : Int) ≤ (M : Nat) := Int.natCast_nonneg _
            have D0 : (0 : Int) ≤ (D : Nat) := Int.natCast_nonneg _
            have H0 : (0 : Int) ≤ (H : Nat) := Int.natCast_nonneg _
            have Mi0 : (0 : Int) ≤ (Mi : Nat) := Int.natCast_nonneg _
            have Se0 : (0 : Int) ≤ (Se : Nat) := Int.natCast_nonneg _
            have W0 : (0 : Int) ≤ (W : Nat) := Int.natCast_nonneg _
            clear x1 x2
            go_wp2_with (go_at_call 13; refine (CB.out _).mono ?_; rintro e w8 ⟨rfl, hb⟩; have B8 := hid (bt B4.out hb); have KS8 := hid (KS4.out.below hb); have V8 := hid (V4.out.below hb); clear hb t0 t1 g0 g1; have c2 := KS8.out.cell 2; have c3 := KS8.out.cell 3; have c4 := KS8.out.cell 4; have c5 := KS8.out.cell 5; have c6 := KS8.out.cell 6; have c7 := KS8.out.cell 7; have v1 := V8.out.cell 1; have v2 := V8.out.cell 2; have v3 := V8.out.cell 3; have v4 := V8.out.cell 4; have v5 := V8.out.cell 5; have v7 := V8.out.cell 7)
            go_ret
            exact ⟨rfl, B8.out⟩
    · go_wp2_with (first
        | (go_at_call 8; refine (C.out _).mono ?_; rintro e w2 ⟨⟨b', rfl, hg'⟩, hb⟩; have B2 := hid (bt B.out hb); have KS2 := hid (KS.out.below hb); have KT2 := hid (KT.out.below hb); clear hb c0 c1 c2 c3 c4 c5 c6 c7 t0 t1; have c5 := KS2.out.cell 5; have c7 := KS2.out.cell 7; clear hg'; rcases b' with _ | _))
      all_goals
        go_ret
        exact ⟨rfl, B2.out⟩
  · have HN := hid (show ∀ b : Bool, (b = true → goodT s n) → b = false from fun b h => by
      cases b
      · rfl
      · exact absurd (h rfl) hg)
    go_enter Try.func3, Try.ntmps3
    go_upto_region 1 with fail
    generalize ((w.alloc (.cells (schCells dl S) 24)).alloc (.cells (icells s n) 26)) = w1 at B KS KT ⊢
    have c0 := KS.out.cell 0
    have c1 := KS.out.cell 1
    have c2 := KS.out.cell 2
    have c3 := KS.out.cell 3
    have c4 := KS.out.cell 4
    have c5 := KS.out.cell 5
    have c6 := KS.out.cell 6
    have c7 := KS.out.cell 7
    have t0 := KT.out.cell 0
    have t1 := KT.out.cell 1
    go_wp2_with (go_at_call 8; refine (C.out _).mono ?_; rintro e w2 ⟨⟨b', rfl, hg'⟩, hb⟩; have B2 := hid (bt B.out hb); have KS2 := hid (KS.out.below hb); have KT2 := hid (KT.out.below hb); clear hb c0 c1 c2 c3 c4 c5 c6 c7 t0 t1; have c5 := KS2.out.cell 5; have c7 := KS2.out.cell 7; obtain rfl := HN.out b' hg'; clear hg')
    go_ret
    exact ⟨rfl, B2.out⟩
theorem fnCronNextBothDays_walk (e : Bool) (dl a0 a1 a2 a3 a4 a5 s n : Int) (w : World) (_ : (Lit.int .i64 dl).wf = true) (h0 : (Lit.int .u64 a0).wf = true) (h1 : (Lit.int .u64 a1).wf = true) (h2 : (Lit.int .u64 a2).wf = true) (h3 : (Lit.int .u64 a3).wf = true) (h4 : (Lit.int .u64 a4).wf = true) (h5 : (Lit.int .u64 a5).wf = true) (_ : (Lit.int .i64 s).wf = true) (_ : (Lit.int .i64 n).wf = true) :
    Calls Try.prog 3 #[.agg #[.bool e, .int .i64 dl, .int .u64 a0, .int .u64 a1, .int .u64 a2, .int .u64 a3, .int .u64 a4, .int .u64 a5], .agg #[.int .i64 s, .int .i64 n]] w fun e w' => e = .returned (.bool true) ∧ Below w.heap.size w w' := by
  cases e
  · exact both_core dl ⟨a0, a1, a2, a3, a4, a5⟩ s n w (setsAll_wf h0 h1 h2 h3 h4 h5)
  · exact both_every dl ⟨a0, a1, a2, a3, a4, a5⟩ s n w
end Go.Proofs.Ytfmagbkcfeckhaa
