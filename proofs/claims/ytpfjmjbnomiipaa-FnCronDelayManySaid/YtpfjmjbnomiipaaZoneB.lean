/- The reference's look at a zone whose lists have the right lengths: both loops. Walked. -/
import Derived.Test.YtpfjmjbnomiipaaZone
import Derived.BigQuiet
import Derived.Deep.DeepCutAuto
set_option linter.unusedVariables false
set_option linter.unusedSimpArgs false
namespace Go.Proofs.Ytpfjmjbnomiipaa
open Go.RowKit

set_option maxHeartbeats 3200000 in
set_option maxRecDepth 100000 in
theorem gz_full (o d h x : Option Addr) (n0 c0 n1 c1 n2 c2 n3 c3 : Nat) (w : World) (h0 : ¬ n0 = 0) (h1 : n0 ≤ 64) (h2 : n1 = n0) (h3 : ¬ n2 = 0) (h4 : n2 ≤ 4096) (h5 : n3 = n2) (hO : Sl w o n0 isI) (hH : Sl w h n2 isI) (hX : Sl w x n3 isI) : Calls Try.prog 6 #[.agg (zcells o d h x n0 c0 n1 c1 n2 c2 n3 c3)] w fun e w' => Says e (goodZ n0 n1 n2 n3) ∧ Below w.heap.size w w' := by
  subst h2 h5
  have G := hid (show goodZ n1 n1 n3 n3 from .inr ⟨by omega, h1, rfl, by omega, h4, rfl⟩)
  have B := hid (show Below w.heap.size w (w.alloc (.cells (zcells o d h x n1 c0 n1 c1 n3 c2 n3 c3) 28)) by go_grown)
  have R := hid (Blk.new w 28 (zcells o d h x n1 c0 n1 c1 n3 c2 n3 c3))
  have z0 : ((n1 : Int) == 0) = false := by rw [beq_eq_false_iff_ne]; omega
  have g : ¬ (64 : Int) < (n1 : Int) := by omega
  have e2 : ((n1 : Int) != (n1 : Int)) = false := by simp
  have z2 : ((n3 : Int) == 0) = false := by rw [beq_eq_false_iff_ne]; omega
  have g2 : ¬ (4096 : Int) < (n3 : Int) := by omega
  have e3 : ((n3 : Int) != (n3 : Int)) = false := by simp
  obtain ⟨ha, hx0, hha, hc, m, rfl⟩ := hH 0 (by omega)
  subst hha
  have HO := hid (fun i (hi : i < n1) => (hO.below ((Below.refl _ _).alloc (Nat.le_refl _) (.cells (zcells o d (some ha) x n1 c0 n1 c1 n3 c2 n3 c3) 28))) i hi)
  have HH := hid (hH.below ((Below.refl _ _).alloc (Nat.le_refl _) (.cells (zcells o d (some ha) x n1 c0 n1 c1 n3 c2 n3 c3) 28)))
  have HX := hid (hX.below ((Below.refl _ _).alloc (Nat.le_refl _) (.cells (zcells o d (some ha) x n1 c0 n1 c1 n3 c2 n3 c3) 28)))
  have hc1 : (w.alloc (.cells (zcells o d (some ha) x n1 c0 n1 c1 n3 c2 n3 c3) 28)).cell? (ha.add 0) = some (.int .i64 m) := (B.out.cell (World.block_lt_of_cell? w _ hc)).trans hc
  have p0 : (0 : Int) < (n3 : Int) := by omega
  clear hc hO hH hX h0 h1 h3 h4
  by_cases hm : m = -9223372036854775808
  · have em : ((m : Int) != -9223372036854775808) = false := by simp [hm]
    go_enter Try.func6, Try.ntmps6
    go_upto_region 1 with fail
    generalize (w.alloc (.cells (zcells o d (some ha) x n1 c0 n1 c1 n3 c2 n3 c3) 28)) = w1 at B R HO HH HX hc1 ⊢
    have k0 : w1.cell? ⟨w.heap.size, 0, none⟩ = some (.slice o n1 c0) := R.out.cell 0
    have k1 : w1.cell? ⟨w.heap.size, 1, none⟩ = some (.slice d n1 c1) := R.out.cell 1
    have k2 : w1.cell? ⟨w.heap.size, 2, none⟩ = some (.slice (some ha) n3 c2) := R.out.cell 2
    have k3 : w1.cell? ⟨w.heap.size, 3, none⟩ = some (.slice x n3 c3) := R.out.cell 3
    have hc2 : w1.cell? ha = some (.int .i64 m) := by rw [← hc1, Addr.add_zero']
    go_wp2_with fail
    go_loop [71] (fun i => ∃ k : Nat, k ≤ n1 ∧ i = .int .i64 k) (fun i => n1 - (intOf i).toNat)
    case atStart => exact ⟨0, Nat.zero_le _, rfl⟩
    case round =>
      obtain ⟨k, hk, rfl⟩ := hrel
      by_cases hlt : k < n1
      · obtain ⟨oa, y, rfl, hy, v, rfl⟩ := HO.out k hlt
        have u1 : (k : Int) < (n1 : Int) := by omega
        have u2 : ¬ (n1 : Int) ≤ (k : Int) := by omega
        have hw : IntKind.i64.wrap ((k : Int) + 1) = (k : Int) + 1 := IntWalk.i64_in _ (by omega)
        by_cases v1 : v < -86400
        · go_wp2_with fail
          go_ret
          exact ⟨⟨_, rfl, fun h => by cases h⟩, B.out⟩
        · by_cases v2 : 86400 < v
          · go_wp2_with fail
            go_ret
            exact ⟨⟨_, rfl, fun h => by cases h⟩, B.out⟩
          · go_wp2_with fail
            go_round
            case rel => exact ⟨k + 1, by omega, by go_num⟩
            case measure => simp [intOf]; omega
      · obtain rfl : n1 = k := by omega
        have u1 : ¬ (n1 : Int) < (n1 : Int) := by omega
        go_wp2_with fail
        clear k1
        go_loopw [85] (fun i wr => ∃ k : Nat, k ≤ n3 ∧ i = .int .i64 k ∧ Below w1.heap.size w1 wr) (fun i _ => n3 - (intOf i).toNat)
        case atStart => exact ⟨0, Nat.zero_le _, rfl, Below.refl _ _⟩
        case round =>
          obtain ⟨k, hk, rfl, hb⟩ := hrel
          have HB := hid hb
          clear hb
          by_cases hlt : k < n3
          · obtain ⟨xa, y, hxa, hy, v, rfl⟩ := (HX.out.below HB.out) k hlt
            subst hxa
            have KK := hid (R.out.below HB.out)
            have u1 : (k : Int) < (n3 : Int) := by omega
            have u2 : ¬ (n3 : Int) ≤ (k : Int) := by omega
            have hw : IntKind.i64.wrap ((k : Int) + 1) = (k : Int) + 1 := IntWalk.i64_in _ (by omega)
            have r0 : ∀ d os, (Go.Sort.grow (redrawn wr d) os).cell? ⟨w.heap.size, 0, none⟩ = some (.slice o n1 c0) := fun d os => (blk_gr KK.out d os).cell 0
            have r2 : ∀ d os, (Go.Sort.grow (redrawn wr d) os).cell? ⟨w.heap.size, 2, none⟩ = some (.slice (some ha) n3 c2) := fun d os => (blk_gr KK.out d os).cell 2
            clear k0 k2 k3
            by_cases v1 : v < 0
            · have v1' : decide (v < 0) = true := decide_eq_true v1
              go_wp2_with fail
              refine wp_region_quiet_below (by kernel_rfl) (by kernel_rfl) ?_
              repeat (go_big_quiet_step (fail))
              refine wpQuiet_nil ?_
              intro _ hw'
              obtain ⟨⟨dq, osq⟩, hw''⟩ := hw'
              subst hw''
              have HB2 := hid (bt HB.out (below_regrown wr dq osq))
              clear r0 r2
              generalize Go.Sort.grow (redrawn wr dq) osq = w3 at HB2 ⊢
              go_wp2_with fail
              go_ret
              exact ⟨⟨_, rfl, fun h => by cases h⟩, bt B.out HB2.out⟩
            · have v1' : decide (v < 0) = false := decide_eq_false v1
              by_cases v2 : (n1 : Int) ≤ v
              · have v2' : decide ((n1 : Int) ≤ v) = true := decide_eq_true v2
                go_wp2_with fail
                refine wp_region_quiet_below (by kernel_rfl) (by kernel_rfl) ?_
                repeat (go_big_quiet_step (fail))
                refine wpQuiet_nil ?_
                intro _ hw'
                obtain ⟨⟨dq, osq⟩, hw''⟩ := hw'
                subst hw''
                have HB2 := hid (bt HB.out (below_regrown wr dq osq))
                clear r0 r2
                generalize Go.Sort.grow (redrawn wr dq) osq = w3 at HB2 ⊢
                go_wp2_with fail
                go_ret
                exact ⟨⟨_, rfl, fun h => by cases h⟩, bt B.out HB2.out⟩
              · have v2' : decide ((n1 : Int) ≤ v) = false := decide_eq_false v2
                by_cases hk0 : k = 0
                · subst hk0
                  have v3' : decide ((0 : Int) < ((0 : Nat) : Int)) = false := by simp
                  have hy0 : wr.cell? xa = some (.int .i64 v) := by rw [← hy, Addr.add_zero']
                  go_wp2_with fail
                  refine wp_region_quiet_below (by kernel_rfl) (by kernel_rfl) ?_
                  repeat (go_big_quiet_step (fail))
                  refine wpQuiet_nil ?_
                  intro _ hw'
                  obtain ⟨⟨dq, osq⟩, hw''⟩ := hw'
                  subst hw''
                  have HB2 := hid (bt HB.out (below_regrown wr dq osq))
                  clear r0 r2
                  generalize Go.Sort.grow (redrawn wr dq) osq = w3 at HB2 ⊢
                  go_wp2_with fail
                  go_roundw
                  case rel => exact ⟨1, by omega, by go_num, HB2.out⟩
                  case measure => simp [intOf]; omega
                · obtain ⟨j, hj⟩ : ∃ j : Nat, (k : Int) - 1 = (j : Int) := ⟨k - 1, by omega⟩
                  have v3 : (0 : Int) < (k : Int) := by omega
                  have v3' : decide ((0 : Int) < (k : Int)) = true := decide_eq_true v3
                  have v3n : 0 < k := by omega
                  have v3n' : decide (0 < k) = true := decide_eq_true v3n
                  have hwj : IntKind.i64.wrap ((k : Int) - 1) = (j : Int) := by rw [hj]; exact IntWalk.i64_in _ (by omega)
                  have j1 : (j : Int) < (n3 : Int) := by omega
                  have j2 : ¬ (n3 : Int) ≤ (j : Int) := by omega
                  obtain ⟨_, yj, hha, hyj, a, rfl⟩ := (HH.out.below HB.out) j (by omega)
                  obtain rfl := (Option.some.inj hha)
                  obtain ⟨_, yk, hha2, hyk, b, rfl⟩ := (HH.out.below HB.out) k hlt
                  obtain rfl := (Option.some.inj hha2)
                  have rj : ∀ d os, (Go.Sort.grow (redrawn wr d) os).cell? (Addr.add _ j) = some (.int .i64 a) := fun d os => cell_gr hyj d os
                  have rk : ∀ d os, (Go.Sort.grow (redrawn wr d) os).cell? (Addr.add _ k) = some (.int .i64 b) := fun d os => cell_gr hyk d os
                  by_cases v4 : b ≤ a
                  · have v4' : decide (b ≤ a) = true := decide_eq_true v4
                    go_wp2_with fail
                    refine wp_region_quiet_below (by kernel_rfl) (by kernel_rfl) ?_
                    repeat (go_big_quiet_step (fail))
                    refine wpQuiet_nil ?_
                    intro _ hw'
                    obtain ⟨⟨dq, osq⟩, hw''⟩ := hw'
                    subst hw''
                    have HB2 := hid (bt HB.out (below_regrown wr dq osq))
                    clear r0 r2 rj rk
                    generalize Go.Sort.grow (redrawn wr dq) osq = w3 at HB2 ⊢
                    go_wp2_with fail
                    go_ret
                    exact ⟨⟨_, rfl, fun h => by cases h⟩, bt B.out HB2.out⟩
                  · have v4' : decide (b ≤ a) = false := decide_eq_false v4
                    go_wp2_with fail
                    refine wp_region_quiet_below (by kernel_rfl) (by kernel_rfl) ?_
                    repeat (go_big_quiet_step (fail))
                    refine wpQuiet_nil ?_
                    intro _ hw'
                    obtain ⟨⟨dq, osq⟩, hw''⟩ := hw'
                    subst hw''
                    have HB2 := hid (bt HB.out (below_regrown wr dq osq))
                    clear r0 r2 rj rk
                    generalize Go.Sort.grow (redrawn wr dq) osq = w3 at HB2 ⊢
                    go_wp2_with fail
                    go_roundw
                    case rel => exact ⟨k + 1, by omega, by go_num, HB2.out⟩
                    case measure => simp [intOf]; omega
          · obtain rfl : n3 = k := by omega
            have u1 : ¬ (n3 : Int) < (n3 : Int) := by omega
            go_wp2_with fail
            go_ret
            exact ⟨⟨_, rfl, fun _ => G.out⟩, bt B.out HB.out⟩
  · have em : ((m : Int) != -9223372036854775808) = true := by simp [hm]
    go_enter Try.func6, Try.ntmps6
    go_upto_region 1 with fail
    generalize (w.alloc (.cells (zcells o d (some ha) x n1 c0 n1 c1 n3 c2 n3 c3) 28)) = w1 at B R HO HH HX hc1 ⊢
    have k0 : w1.cell? ⟨w.heap.size, 0, none⟩ = some (.slice o n1 c0) := R.out.cell 0
    have k1 : w1.cell? ⟨w.heap.size, 1, none⟩ = some (.slice d n1 c1) := R.out.cell 1
    have k2 : w1.cell? ⟨w.heap.size, 2, none⟩ = some (.slice (some ha) n3 c2) := R.out.cell 2
    have k3 : w1.cell? ⟨w.heap.size, 3, none⟩ = some (.slice x n3 c3) := R.out.cell 3
    have hc2 : w1.cell? ha = some (.int .i64 m) := by rw [← hc1, Addr.add_zero']
    go_wp2_with fail
    go_ret
    exact ⟨⟨_, rfl, fun h => by cases h⟩, B.out⟩
end Go.Proofs.Ytpfjmjbnomiipaa
