/- The reference's date of a day: that of the plain calendar. Walked. -/
import Derived.Test.YtfmagbkcfeckhaaGregB
set_option linter.unusedVariables false
set_option linter.unusedSimpArgs false
namespace Go.Proofs.Ytfmagbkcfeckhaa
open Go.RowKit

set_option maxHeartbeats 3200000 in
set_option maxRecDepth 100000 in
theorem dateOk_any (day : Int) (w : World) (h1 : -720000 ≤ day) (h2 : day ≤ 3000000) : Calls Try.prog 31 #[.int .i64 day] w fun e w' => (∃ Y M D, e = .returned (.agg #[.int .i64 Y, .int .i64 M, .int .i64 D]) ∧ okDate Y M D ∧ dateIs day Y M D) ∧ Below w.heap.size w w' := by
  have C3 := hid (fun w => fd_366 day w (by omega) (by omega))
  have C5 := hid (fun w => fd_365 day w (by omega) (by omega))
  obtain ⟨p, hp⟩ : ∃ p, day / 366 = p := ⟨_, rfl⟩
  obtain ⟨q, hq⟩ : ∃ q, day / 365 = q := ⟨_, rfl⟩
  rw [hp] at C3
  have Y3 := hid (show 0 ≤ day → ∀ z, z = 1970 + p → ys z ≤ day from fun h z hz => by
    have hp' : 366 * p ≤ day := by omega
    have hp0 : 0 ≤ p := by omega
    subst hz
    unfold ys
    clear hp C3 C5
    rcases (by omega : p = 0 ∨ p = 1 ∨ p = 2 ∨ p = 3 ∨ 4 ≤ p) with rfl | rfl | rfl | rfl | h4 <;> omega)
  rw [hq] at C5
  have Y5 := hid (show day < 0 → ∀ z, z = 1970 + q - 1 → ys z ≤ day from fun h z hz => by subst hz; subst hq; unfold ys; omega)
  have p1 : -2000 ≤ p := by omega
  have p2 : p ≤ 9000 := by omega
  have q1 : -2000 ≤ q := by omega
  have q2 : q ≤ 9000 := by omega
  clear hp hq
  by_cases h0 : day < 0
  · go_enter Try.func31, Try.ntmps31
    go_wp2_with (first | (go_at_call_of 32 (Value.int .i64 366); refine (C3.out _).mono ?_; rintro e w' ⟨rfl, rfl⟩) | (go_at_call_of 32 (Value.int .i64 365); refine (C5.out _).mono ?_; rintro e w' ⟨rfl, rfl⟩))
    clear C3 C5
    have B := hid (show Below w.heap.size w (w.alloc (.cells #[.int .i64 0, .int .i64 0, .int .i64 0] 72)) by go_grown)
    have R := hid (Blk.new w 72 #[.int .i64 0, .int .i64 0, .int .i64 0])
    generalize (w.alloc (.cells #[.int .i64 0, .int .i64 0, .int .i64 0] 72)) = w1 at B R ⊢
    go_loop [3] (fun v => ∃ y : Int, v = .int .i64 y ∧ -1000 ≤ y ∧ y ≤ 20000 ∧ ys y ≤ day) (fun v => (20000 - intOf v).toNat)
    case atStart => exact ⟨_, rfl, by omega, by omega, Y5.out h0 _ (by omega)⟩
    case round =>
      obtain ⟨y, rfl, y1, y2, y4⟩ := hrel
      have HY4 := hid y4
      clear y4
      clear p1 p2 q1 q2 Y3 Y5
      obtain ⟨z, hz⟩ : ∃ z, y + 1 = z := ⟨_, rfl⟩
      have CY := hid (ys_any z w1 (by omega) (by omega))
      obtain ⟨s, hs⟩ : ∃ s, ys z = s := ⟨_, rfl⟩
      rw [hs] at CY
      have HS := hid hs
      clear hs
      have e1 : IntKind.i64.wrap (y + 1) = z := by rw [hz]; exact IntWalk.i64_in _ (by omega)
      have e1' : wrap64 z = z := by unfold wrap64; omega
      by_cases hc : s ≤ day
      · have y3 : z ≤ 20000 := by
          have := HS.out
          unfold ys at this
          omega
        go_wp2_with (go_at_call 45; refine CY.out.mono ?_; rintro e w' ⟨rfl, rfl⟩)
        go_round
        case rel => exact ⟨z, by go_num, by omega, by omega, HS.out ▸ hc⟩
        case measure => simp [intOf]; omega
      · have C2 := hid (ys_any y w1 (by omega) (by omega))
        obtain ⟨u, hu⟩ : ∃ u, ys y = u := ⟨_, rfl⟩
        rw [hu] at C2
        have u1 : -1500000 ≤ u := by unfold ys at hu; omega
        have u2 : u ≤ 10000000 := by unfold ys at hu; omega
        have HU := hid hu
        clear hu
        go_wp2_with (first | (go_at_call_of 45 (Value.int .i64 z); refine CY.out.mono ?_; rintro e w' ⟨rfl, rfl⟩) | (go_at_call_of 45 (Value.int .i64 y); refine C2.out.mono ?_; rintro e w' ⟨rfl, rfl⟩))
        clear CY C2
        go_loop [4, 5] (fun rv mv => ∃ (r : Int) (k : Nat), rv = .int .i64 r ∧ mv = .int .i64 ((k : Int) + 1) ∧ r + (k : Int) ≤ 10000000 ∧ -20000000 ≤ r ∧ day - u = msum y k + r ∧ k ≤ 11 ∧ 0 ≤ r) (fun rv _ => (intOf rv).toNat)
        case atStart => exact ⟨day - u, 0, rfl, rfl, by omega, by omega, by simp [msum], by omega, by have := HY4.out; have := HU.out; omega⟩
        case round =>
          obtain ⟨r, k, rfl, rfl, r1, r2, r3, r4, r5⟩ := hrel
          have R5 := hid r5
          clear r5
          have CM := hid (md_any y ((k : Int) + 1) w1)
          obtain ⟨m1, m2⟩ := md_pos y ((k : Int) + 1)
          obtain ⟨m, hm⟩ : ∃ m, md y ((k : Int) + 1) = m := ⟨_, rfl⟩
          rw [hm] at CM m1 m2
          have HM := hid hm
          have R3 := hid r3
          clear hm r3
          have k1 : 0 ≤ (k : Int) := by omega
          by_cases hr : m ≤ r
          · have e2 : IntKind.i64.wrap (r - m) = r - m := IntWalk.i64_in _ (by omega)
            have e3 : IntKind.i64.wrap ((k : Int) + 1 + 1) = (k : Int) + 1 + 1 := IntWalk.i64_in _ (by omega)
            go_wp2_with (go_at_call 46; refine CM.out.mono ?_; rintro e w' ⟨rfl, rfl⟩)
            go_round
            case rel => exact ⟨r - m, k + 1, by go_num, by go_num, by omega, by omega, by rw [msum, HM.out]; have := R3.out; omega, by
                have g1 := R3.out
                have g2 := HM.out
                have g3 := HS.out
                have g4 := HU.out
                have g5 := ys_next y
                have g6 := msum_val y
                have g7 := (md_val y).2.2.2.2.2.2.2.2.2.2.2
                rcases Nat.lt_or_ge k 11 with hk | hk
                · omega
                · exfalso
                  obtain rfl : k = 11 := by omega
                  rw [show ((11 : Nat) : Int) + 1 = 12 from rfl, g7] at g2
                  rw [g6.2.2.2.2.2.2.2.2.2.2.2.1] at g1
                  rw [← hz, g5, g4] at g3
                  omega, by omega⟩
            case measure => simp [intOf]; omega
          · have e2 : IntKind.i64.wrap (r + 1) = r + 1 := IntWalk.i64_in _ (by omega)
            have t0 := hid (there_b R.out 3 (Nat.le_refl 3))
            go_wp2_with (first | (go_at_call 46; refine CM.out.mono ?_; rintro e w' ⟨rfl, rfl⟩) | (refine wpList_store_mid rfl 72 (.tmp 2) (.tmp 42) rfl w.heap.size 0 #[.int .i64 y, .int .i64 ((k : Int) + 1), .int .i64 (r + 1)] (by rfl) (by rfl) t0.out (by kernel_rfl) (by simp [Value.oneCell']) ?_; have R3' := hid (set_b3 R.out (.int .i64 y) (.int .i64 ((k : Int) + 1)) (.int .i64 (r + 1))); have B3' := hid (below_b3 B.out (Nat.le_refl _) (.int .i64 y) (.int .i64 ((k : Int) + 1)) (.int .i64 (r + 1))); generalize w1.setCells w.heap.size 0 #[Value.int .i64 y, .int .i64 ((k : Int) + 1), .int .i64 (r + 1)].toList = w3 at R3' B3' ⊢))
            refine bodyPost_ret (results_cell_row rfl _ _ w.heap.size 72 _ (0, 0) _ rfl R3'.out Try.underlying72 rfl (by kernel_rfl)) rfl ⟨⟨_, _, _, rfl, ⟨by omega, by omega, by have := R5.out; omega, by rw [HM.out]; omega⟩, ?_⟩, B3'.out⟩
            have h3 := R3.out
            have h4 := HU.out
            have e : ((k : Int) + 1 - 1).toNat = k := by omega
            unfold dateIs
            rw [e, h4]
            omega
  · go_enter Try.func31, Try.ntmps31
    go_wp2_with (first | (go_at_call_of 32 (Value.int .i64 366); refine (C3.out _).mono ?_; rintro e w' ⟨rfl, rfl⟩) | (go_at_call_of 32 (Value.int .i64 365); refine (C5.out _).mono ?_; rintro e w' ⟨rfl, rfl⟩))
    clear C3 C5
    have B := hid (show Below w.heap.size w (w.alloc (.cells #[.int .i64 0, .int .i64 0, .int .i64 0] 72)) by go_grown)
    have R := hid (Blk.new w 72 #[.int .i64 0, .int .i64 0, .int .i64 0])
    generalize (w.alloc (.cells #[.int .i64 0, .int .i64 0, .int .i64 0] 72)) = w1 at B R ⊢
    go_loop [3] (fun v => ∃ y : Int, v = .int .i64 y ∧ -1000 ≤ y ∧ y ≤ 20000 ∧ ys y ≤ day) (fun v => (20000 - intOf v).toNat)
    case atStart => exact ⟨_, rfl, by omega, by omega, Y3.out (by omega) _ (by omega)⟩
    case round =>
      obtain ⟨y, rfl, y1, y2, y4⟩ := hrel
      have HY4 := hid y4
      clear y4
      clear p1 p2 q1 q2 Y3 Y5
      obtain ⟨z, hz⟩ : ∃ z, y + 1 = z := ⟨_, rfl⟩
      have CY := hid (ys_any z w1 (by omega) (by omega))
      obtain ⟨s, hs⟩ : ∃ s, ys z = s := ⟨_, rfl⟩
      rw [hs] at CY
      have HS := hid hs
      clear hs
      have e1 : IntKind.i64.wrap (y + 1) = z := by rw [hz]; exact IntWalk.i64_in _ (by omega)
      have e1' : wrap64 z = z := by unfold wrap64; omega
      by_cases hc : s ≤ day
      · have y3 : z ≤ 20000 := by
          have := HS.out
          unfold ys at this
          omega
        go_wp2_with (go_at_call 45; refine CY.out.mono ?_; rintro e w' ⟨rfl, rfl⟩)
        go_round
        case rel => exact ⟨z, by go_num, by omega, by omega, HS.out ▸ hc⟩
        case measure => simp [intOf]; omega
      · have C2 := hid (ys_any y w1 (by omega) (by omega))
        obtain ⟨u, hu⟩ : ∃ u, ys y = u := ⟨_, rfl⟩
        rw [hu] at C2
        have u1 : -1500000 ≤ u := by unfold ys at hu; omega
        have u2 : u ≤ 10000000 := by unfold ys at hu; omega
        have HU := hid hu
        clear hu
        go_wp2_with (first | (go_at_call_of 45 (Value.int .i64 z); refine CY.out.mono ?_; rintro e w' ⟨rfl, rfl⟩) | (go_at_call_of 45 (Value.int .i64 y); refine C2.out.mono ?_; rintro e w' ⟨rfl, rfl⟩))
        clear CY C2
        go_loop [4, 5] (fun rv mv => ∃ (r : Int) (k : Nat), rv = .int .i64 r ∧ mv = .int .i64 ((k : Int) + 1) ∧ r + (k : Int) ≤ 10000000 ∧ -20000000 ≤ r ∧ day - u = msum y k + r ∧ k ≤ 11 ∧ 0 ≤ r) (fun rv _ => (intOf rv).toNat)
        case atStart => exact ⟨day - u, 0, rfl, rfl, by omega, by omega, by simp [msum], by omega, by have := HY4.out; have := HU.out; omega⟩
        case round =>
          obtain ⟨r, k, rfl, rfl, r1, r2, r3, r4, r5⟩ := hrel
          have R5 := hid r5
          clear r5
          have CM := hid (md_any y ((k : Int) + 1) w1)
          obtain ⟨m1, m2⟩ := md_pos y ((k : Int) + 1)
          obtain ⟨m, hm⟩ : ∃ m, md y ((k : Int) + 1) = m := ⟨_, rfl⟩
          rw [hm] at CM m1 m2
          have HM := hid hm
          have R3 := hid r3
          clear hm r3
          have k1 : 0 ≤ (k : Int) := by omega
          by_cases hr : m ≤ r
          · have e2 : IntKind.i64.wrap (r - m) = r - m := IntWalk.i64_in _ (by omega)
            have e3 : IntKind.i64.wrap ((k : Int) + 1 + 1) = (k : Int) + 1 + 1 := IntWalk.i64_in _ (by omega)
            go_wp2_with (go_at_call 46; refine CM.out.mono ?_; rintro e w' ⟨rfl, rfl⟩)
            go_round
            case rel => exact ⟨r - m, k + 1, by go_num, by go_num, by omega, by omega, by rw [msum, HM.out]; have := R3.out; omega, by
                have g1 := R3.out
                have g2 := HM.out
                have g3 := HS.out
                have g4 := HU.out
                have g5 := ys_next y
                have g6 := msum_val y
                have g7 := (md_val y).2.2.2.2.2.2.2.2.2.2.2
                rcases Nat.lt_or_ge k 11 with hk | hk
                · omega
                · exfalso
                  obtain rfl : k = 11 := by omega
                  rw [show ((11 : Nat) : Int) + 1 = 12 from rfl, g7] at g2
                  rw [g6.2.2.2.2.2.2.2.2.2.2.2.1] at g1
                  rw [← hz, g5, g4] at g3
                  omega, by omega⟩
            case measure => simp [intOf]; omega
          · have e2 : IntKind.i64.wrap (r + 1) = r + 1 := IntWalk.i64_in _ (by omega)
            have t0 := hid (there_b R.out 3 (Nat.le_refl 3))
            go_wp2_with (first | (go_at_call 46; refine CM.out.mono ?_; rintro e w' ⟨rfl, rfl⟩) | (refine wpList_store_mid rfl 72 (.tmp 2) (.tmp 42) rfl w.heap.size 0 #[.int .i64 y, .int .i64 ((k : Int) + 1), .int .i64 (r + 1)] (by rfl) (by rfl) t0.out (by kernel_rfl) (by simp [Value.oneCell']) ?_; have R3' := hid (set_b3 R.out (.int .i64 y) (.int .i64 ((k : Int) + 1)) (.int .i64 (r + 1))); have B3' := hid (below_b3 B.out (Nat.le_refl _) (.int .i64 y) (.int .i64 ((k : Int) + 1)) (.int .i64 (r + 1))); generalize w1.setCells w.heap.size 0 #[Value.int .i64 y, .int .i64 ((k : Int) + 1), .int .i64 (r + 1)].toList = w3 at R3' B3' ⊢))
            refine bodyPost_ret (results_cell_row rfl _ _ w.heap.size 72 _ (0, 0) _ rfl R3'.out Try.underlying72 rfl (by kernel_rfl)) rfl ⟨⟨_, _, _, rfl, ⟨by omega, by omega, by have := R5.out; omega, by rw [HM.out]; omega⟩, ?_⟩, B3'.out⟩
            have h3 := R3.out
            have h4 := HU.out
            have e : ((k : Int) + 1 - 1).toNat = k := by omega
            unfold dateIs
            rw [e, h4]
            omega
/-- The reference's date of a day is yP, mP, dP. -/
theorem dateP_any (day : Int) (w : World) (h1 : -720000 ≤ day) (h2 : day ≤ 3000000) : Calls Try.prog 31 #[.int .i64 day] w fun e w' => e = .returned (.agg #[.int .i64 (yP day), .int .i64 (mP day), .int .i64 (dP day)]) ∧ Below w.heap.size w w' := by
  refine (dateOk_any day w h1 h2).mono ?_
  rintro e w' ⟨⟨Y, M, D, rfl, ok, hd⟩, hb⟩
  obtain ⟨rfl, rfl, rfl⟩ := date_of (by omega) (by omega) ok hd.symm
  exact ⟨rfl, hb⟩
end Go.Proofs.Ytfmagbkcfeckhaa
