/- The reference's look at a zone whose lists have the right lengths: both loops. Walked. -/
import Derived.Test.YtcaabeocflfboaaZoneP
import Derived.BigQuiet
import Derived.Deep.DeepCutAuto
set_option linter.unusedVariables false
set_option linter.unusedSimpArgs false
namespace Go.Proofs.Ytcaabeocflfboaa
open Go.RowKit

set_option maxHeartbeats 3200000 in
set_option maxRecDepth 100000 in
theorem gc_full (o d h x : Option Addr) (n0 c0 n1 c1 n2 c2 n3 c3 : Nat) (w : World) (h0 : ¬ n0 = 0) (h1 : n0 ≤ 64) (h2 : n1 = n0) (h3 : ¬ n2 = 0) (h4 : n2 ≤ 4096) (h5 : n3 = n2) (O W I : Nat → Int) (hO : Ints w o n0 O) (hH : Ints w h n2 W) (hX : Ints w x n3 I) : Calls Try.prog 6 #[.agg (zcells o d h x n0 c0 n1 c1 n2 c2 n3 c3)] w fun e w' => Says e (goodZ n0 n1 n2 n3 ∧ goodC n0 n2 O W I) ∧ Below w.heap.size w w' := by
  subst h2 h5
  have G := hid (show goodZ n1 n1 n3 n3 from .inr ⟨by omega, h1, rfl, by omega, h4, rfl⟩)
  have B := hid (show Below w.heap.size w (w.alloc (.cells (zcells o d h x n1 c0 n1 c1 n3 c2 n3 c3) 29)) by go_grown)
  have R := hid (Blk.new w 29 (zcells o d h x n1 c0 n1 c1 n3 c2 n3 c3))
  have z0 : ((n1 : Int) == 0) = false := by rw [beq_eq_false_iff_ne]; omega
  have g : ¬ (64 : Int) < (n1 : Int) := by omega
  have e2 : ((n1 : Int) != (n1 : Int)) = false := by simp
  have z2 : ((n3 : Int) == 0) = false := by rw [beq_eq_false_iff_ne]; omega
  have g2 : ¬ (4096 : Int) < (n3 : Int) := by omega
  have e3 : ((n3 : Int) != (n3 : Int)) = false := by simp
  obtain ⟨ha, hha, hc⟩ := hH 0 (by omega)
  obtain ⟨m, hmW⟩ : ∃ m, W 0 = m := ⟨_, rfl⟩
  rw [hmW] at hc
  have HMW := hid hmW
  clear hmW
  subst hha
  have HO := hid (hO.below ((Below.refl _ _).alloc (Nat.le_refl _) (.cells (zcells o d (some ha) x n1 c0 n1 c1 n3 c2 n3 c3) 29)))
  have HH := hid (hH.below ((Below.refl _ _).alloc (Nat.le_refl _) (.cells (zcells o d (some ha) x n1 c0 n1 c1 n3 c2 n3 c3) 29)))
  have HX := hid (hX.below ((Below.refl _ _).alloc (Nat.le_refl _) (.cells (zcells o d (some ha) x n1 c0 n1 c1 n3 c2 n3 c3) 29)))
  have hc1 : (w.alloc (.cells (zcells o d (some ha) x n1 c0 n1 c1 n3 c2 n3 c3) 29)).cell? (ha.add 0) = some (.int .i64 m) := (B.out.cell (World.block_lt_of_cell? w _ hc)).trans hc
  have p0 : (0 : Int) < (n3 : Int) := by omega
  clear hc hO hH hX h0 h1 h3 h4
  by_cases hm : m = -9223372036854775808
  · have em : ((m : Int) != -9223372036854775808) = false := by simp [hm]
    go_enter Try.func6, Try.ntmps6
    go_upto_region 1 with fail
    generalize (w.alloc (.cells (zcells o d (some ha) x n1 c0 n1 c1 n3 c2 n3 c3) 29)) = w1 at B R HO HH HX hc1 ⊢
    have k0 : w1.cell? ⟨w.heap.size, 0, none⟩ = some (.slice o n1 c0) := R.out.cell 0
    have k1 : w1.cell? ⟨w.heap.size, 1, none⟩ = some (.slice d n1 c1) := R.out.cell 1
    have k2 : w1.cell? ⟨w.heap.size, 2, none⟩ = some (.slice (some ha) n3 c2) := R.out.cell 2
    have k3 : w1.cell? ⟨w.heap.size, 3, none⟩ = some (.slice x n3 c3) := R.out.cell 3
    have hc2 : w1.cell? ha = some (.int .i64 m) := by rw [← hc1, Addr.add_zero']
    go_wp2_with fail
    go_loop [71] (fun i => ∃ k : Nat, k ≤ n1 ∧ i = .int .i64 k ∧ ∀ j, j < k → -86400 ≤ O j ∧ O j ≤ 86400) (fun i => n1 - (intOf i).toNat)
    case atStart => exact ⟨0, Nat.zero_le _, rfl, fun j hj => absurd hj (Nat.not_lt_zero _)⟩
    case round =>
      obtain ⟨k, hk, rfl, hall⟩ := hrel
      have HALL := hid hall
      clear hall
      by_cases hlt : k < n1
      · obtain ⟨oa, rfl, hy⟩ := HO.out k hlt
        obtain ⟨v, hvO⟩ : ∃ v, O k = v := ⟨_, rfl⟩
        rw [hvO] at hy
        have HVO := hid hvO
        clear hvO
        have u1 : (k : Int) < (n1 : Int) := by omega
        have u2 : ¬ (n1 : Int) ≤ (k : Int) := by omega
        have hw : IntKind.i64.wrap ((k : Int) + 1) = (k : Int) + 1 := IntWalk.i64_in _ (by omega)
        by_cases v1 : v < -86400
        · go_wp2_with fail
          go_ret
          exact ⟨⟨_, rfl, fun h => by cases h⟩, B.out⟩
        · by_cases v2 : 86400 < v
          · go_wp2_with fail
            go_ret
            exact ⟨⟨_, rfl, fun h => by cases h⟩, B.out⟩
          · go_wp2_with fail
            go_round
            case rel => exact ⟨k + 1, by omega, by go_num, fun j hj => by
              by_cases e : j = k
              · subst e; rw [HVO.out]; omega
              · exact HALL.out j (by omega)⟩
            case measure => simp [intOf]; omega
      · obtain rfl : n1 = k := by omega
        have u1 : ¬ (n1 : Int) < (n1 : Int) := by omega
        go_wp2_with fail
        clear k1
        go_loopw [85] (fun i wr => ∃ k : Nat, k ≤ n3 ∧ i = .int .i64 k ∧ Below w1.heap.size w1 wr ∧ (∀ j, j < k → 0 ≤ I j ∧ I j < n1) ∧ (∀ j, j + 1 < k → W j < W (j + 1))) (fun i _ => n3 - (intOf i).toNat)
        case atStart => exact ⟨0, Nat.zero_le _, rfl, Below.refl _ _, fun j hj => absurd hj (Nat.not_lt_zero _), fun j hj => absurd hj (Nat.not_lt_zero _)⟩
        case round =>
          obtain ⟨k, hk, rfl, hb, hi1, hi2⟩ := hrel
          have HB := hid hb
          have HI1 := hid hi1
          have HI2 := hid hi2
          clear hb hi1 hi2
          by_cases hlt : k < n3
          · obtain ⟨xa, hxa, hy⟩ := (HX.out.below HB.out) k hlt
            obtain ⟨v, hvI⟩ : ∃ v, I k = v := ⟨_, rfl⟩
            rw [hvI] at hy
            have HVI := hid hvI
            clear hvI
            subst hxa
            have KK := hid (R.out.below HB.out)
            have u1 : (k : Int) < (n3 : Int) := by omega
            have u2 : ¬ (n3 : Int) ≤ (k : Int) := by omega
            have hw : IntKind.i64.wrap ((k : Int) + 1) = (k : Int) + 1 := IntWalk.i64_in _ (by omega)
            have r0 : ∀ d os, (Go.Sort.grow (redrawn wr d) os).cell? ⟨w.heap.size, 0, none⟩ = some (.slice o n1 c0) := fun d os => (blk_gr KK.out d os).cell 0
            have r2 : ∀ d os, (Go.Sort.grow (redrawn wr d) os).cell? ⟨w.heap.size, 2, none⟩ = some (.slice (some ha) n3 c2) := fun d os => (blk_gr KK.out d os).cell 2
            clear k0 k2 k3
            by_cases v1 : v < 0
            · have v1' : decide (v < 0) = true := decide_eq_true v1
              go_wp2_with fail
              refine wp_region_quiet_below (by kernel_rfl) (by kernel_rfl) ?_
              repeat (go_big_quiet_step (fail))
              refine wpQuiet_nil ?_
              intro _ hw'
              obtain ⟨⟨dq, osq⟩, hw''⟩ := hw'
              subst hw''
              have HB2 := hid (bt HB.out (below_regrown wr dq osq))
              clear r0 r2
              generalize Go.Sort.grow (redrawn wr dq) osq = w3 at HB2 ⊢
              go_wp2_with fail
              go_ret
              exact ⟨⟨_, rfl, fun h => by cases h⟩, bt B.out HB2.out⟩
            · have v1' : decide (v < 0) = false := decide_eq_false v1
              by_cases v2 : (n1 : Int) ≤ v
              · have v2' : decide ((n1 : Int) ≤ v) = true := decide_eq_true v2
                go_wp2_with fail
                refine wp_region_quiet_below (by kernel_rfl) (by kernel_rfl) ?_
                repeat (go_big_quiet_step (fail))
                refine wpQuiet_nil ?_
                intro _ hw'
                obtain ⟨⟨dq, osq⟩, hw''⟩ := hw'
                subst hw''
                have HB2 := hid (bt HB.out (below_regrown wr dq osq))
                clear r0 r2
                generalize Go.Sort.grow (redrawn wr dq) osq = w3 at HB2 ⊢
                go_wp2_with fail
                go_ret
                exact ⟨⟨_, rfl, fun h => by cases h⟩, bt B.out HB2.out⟩
              · have v2' : decide ((n1 : Int) ≤ v) = false := decide_eq_false v2
                by_cases hk0 : k = 0
                · subst hk0
                  have v3' : decide ((0 : Int) < ((0 : Nat) : Int)) = false := by simp
                  have hy0 : wr.cell? xa = some (.int .i64 v) := by rw [← hy, Addr.add_zero']
                  go_wp2_with fail
                  refine wp_region_quiet_below (by kernel_rfl) (by kernel_rfl) ?_
                  repeat (go_big_quiet_step (fail))
                  refine wpQuiet_nil ?_
                  intro _ hw'
                  obtain ⟨⟨dq, osq⟩, hw''⟩ := hw'
                  subst hw''
                  have HB2 := hid (bt HB.out (below_regrown wr dq osq))
                  clear r0 r2
                  generalize Go.Sort.grow (redrawn wr dq) osq = w3 at HB2 ⊢
                  go_wp2_with fail
                  go_roundw
                  case rel => exact ⟨1, by omega, by go_num, HB2.out, fun j hj => by
                    obtain rfl : j = 0 := by omega
                    rw [HVI.out]; omega, fun j hj => by omega⟩
                  case measure => simp [intOf]; omega
                · obtain ⟨j, hj⟩ : ∃ j : Nat, (k : Int) - 1 = (j : Int) := ⟨k - 1, by omega⟩
                  have v3 : (0 : Int) < (k : Int) := by omega
                  have v3' : decide ((0 : Int) < (k : Int)) = true := decide_eq_true v3
                  have v3n : 0 < k := by omega
                  have v3n' : decide (0 < k) = true := decide_eq_true v3n
                  have hwj : IntKind.i64.wrap ((k : Int) - 1) = (j : Int) := by rw [hj]; exact IntWalk.i64_in _ (by omega)
                  have j1 : (j : Int) < (n3 : Int) := by omega
                  have j2 : ¬ (n3 : Int) ≤ (j : Int) := by omega
                  obtain ⟨_, hha, hyj⟩ := (HH.out.below HB.out) j (by omega)
                  obtain rfl := (Option.some.inj hha)
                  obtain ⟨_, hha2, hyk⟩ := (HH.out.below HB.out) k hlt
                  obtain rfl := (Option.some.inj hha2)
                  obtain ⟨a, haW⟩ : ∃ a, W j = a := ⟨_, rfl⟩
                  obtain ⟨b, hbW⟩ : ∃ b, W k = b := ⟨_, rfl⟩
                  rw [haW] at hyj
                  rw [hbW] at hyk
                  have HAW := hid haW
                  have HBW := hid hbW
                  have HJ := hid hj
                  clear haW hbW
                  have rj : ∀ d os, (Go.Sort.grow (redrawn wr d) os).cell? (Addr.add _ j) = some (.int .i64 a) := fun d os => cell_gr hyj d os
                  have rk : ∀ d os, (Go.Sort.grow (redrawn wr d) os).cell? (Addr.add _ k) = some (.int .i64 b) := fun d os => cell_gr hyk d os
                  by_cases v4 : b ≤ a
                  · have v4' : decide (b ≤ a) = true := decide_eq_true v4
                    go_wp2_with fail
                    refine wp_region_quiet_below (by kernel_rfl) (by kernel_rfl) ?_
                    repeat (go_big_quiet_step (fail))
                    refine wpQuiet_nil ?_
                    intro _ hw'
                    obtain ⟨⟨dq, osq⟩, hw''⟩ := hw'
                    subst hw''
                    have HB2 := hid (bt HB.out (below_regrown wr dq osq))
                    clear r0 r2 rj rk
                    generalize Go.Sort.grow (redrawn wr dq) osq = w3 at HB2 ⊢
                    go_wp2_with fail
                    go_ret
                    exact ⟨⟨_, rfl, fun h => by cases h⟩, bt B.out HB2.out⟩
                  · have v4' : decide (b ≤ a) = false := decide_eq_false v4
                    go_wp2_with fail
                    refine wp_region_quiet_below (by kernel_rfl) (by kernel_rfl) ?_
                    repeat (go_big_quiet_step (fail))
                    refine wpQuiet_nil ?_
                    intro _ hw'
                    obtain ⟨⟨dq, osq⟩, hw''⟩ := hw'
                    subst hw''
                    have HB2 := hid (bt HB.out (below_regrown wr dq osq))
                    clear r0 r2 rj rk
                    generalize Go.Sort.grow (redrawn wr dq) osq = w3 at HB2 ⊢
                    go_wp2_with fail
                    go_roundw
                    case rel => exact ⟨k + 1, by omega, by go_num, HB2.out, fun i hi => by
                      by_cases e : i = k
                      · subst e; rw [HVI.out]; omega
                      · exact HI1.out i (by omega), fun i hi => by
                      by_cases e : i + 1 = k
                      · have hij : i = j := by have := HJ.out; omega
                        rw [e, hij, HAW.out, HBW.out]; omega
                      · exact HI2.out i (by omega)⟩
                    case measure => simp [intOf]; omega
          · obtain rfl : n3 = k := by omega
            have u1 : ¬ (n3 : Int) < (n3 : Int) := by omega
            go_wp2_with fail
            go_ret
            exact ⟨⟨_, rfl, fun _ => ⟨G.out, HALL.out, fun _ => HMW.out.trans hm, HI1.out, HI2.out⟩⟩, bt B.out HB.out⟩
  · have em : ((m : Int) != -9223372036854775808) = true := by simp [hm]
    go_enter Try.func6, Try.ntmps6
    go_upto_region 1 with fail
    generalize (w.alloc (.cells (zcells o d (some ha) x n1 c0 n1 c1 n3 c2 n3 c3) 29)) = w1 at B R HO HH HX hc1 ⊢
    have k0 : w1.cell? ⟨w.heap.size, 0, none⟩ = some (.slice o n1 c0) := R.out.cell 0
    have k1 : w1.cell? ⟨w.heap.size, 1, none⟩ = some (.slice d n1 c1) := R.out.cell 1
    have k2 : w1.cell? ⟨w.heap.size, 2, none⟩ = some (.slice (some ha) n3 c2) := R.out.cell 2
    have k3 : w1.cell? ⟨w.heap.size, 3, none⟩ = some (.slice x n3 c3) := R.out.cell 3
    have hc2 : w1.cell? ha = some (.int .i64 m) := by rw [← hc1, Addr.add_zero']
    go_wp2_with fail
    go_ret
    exact ⟨⟨_, rfl, fun h => by cases h⟩, B.out⟩

theorem goodZoneC_any (o d h x : Option Addr) (n0 c0 n1 c1 n2 c2 n3 c3 : Nat) (w : World) (O W I : Nat → Int) (hO : Ints w o n0 O) (hH : Ints w h n2 W) (hX : Ints w x n3 I) : Calls Try.prog 6 #[.agg (zcells o d h x n0 c0 n1 c1 n2 c2 n3 c3)] w fun e w' => Says e (goodZ n0 n1 n2 n3 ∧ goodC n0 n2 O W I) ∧ Below w.heap.size w w' := by
  by_cases h0 : n0 = 0
  · by_cases h1 : n1 = 0
    · by_cases h2 : n2 = 0
      · by_cases h3 : n3 = 0
        · exact gp_000 o d h x n0 c0 n1 c1 n2 c2 n3 c3 w h0 h1 h2 h3 ⟨.inl ⟨h0, h1, h2, h3⟩, fun i hi => by omega, fun hi => by omega, fun i hi => by omega, fun i hi => by omega⟩
        · exact gp_0x o d h x n0 c0 n1 c1 n2 c2 n3 c3 w h0 h1 h2 h3
      · exact gp_0h o d h x n0 c0 n1 c1 n2 c2 n3 c3 w h0 h1 h2
    · exact gp_0d o d h x n0 c0 n1 c1 n2 c2 n3 c3 w h0 h1
  · by_cases h1 : n0 ≤ 64
    · by_cases h2 : n1 = n0
      · by_cases h3 : n2 = 0
        · exact gp_h0 o d h x n0 c0 n1 c1 n2 c2 n3 c3 w h0 h1 h2 h3
        · by_cases h4 : n2 ≤ 4096
          · by_cases h5 : n3 = n2
            · exact gc_full o d h x n0 c0 n1 c1 n2 c2 n3 c3 w h0 h1 h2 h3 h4 h5 O W I hO hH hX
            · exact gp_x o d h x n0 c0 n1 c1 n2 c2 n3 c3 w h0 h1 h2 h3 h4 h5
          · exact gp_h4096 o d h x n0 c0 n1 c1 n2 c2 n3 c3 w h0 h1 h2 h3 h4
      · exact gp_d o d h x n0 c0 n1 c1 n2 c2 n3 c3 w h0 h1 h2
    · exact gp_o64 o d h x n0 c0 n1 c1 n2 c2 n3 c3 w h0 h1
end Go.Proofs.Ytcaabeocflfboaa
