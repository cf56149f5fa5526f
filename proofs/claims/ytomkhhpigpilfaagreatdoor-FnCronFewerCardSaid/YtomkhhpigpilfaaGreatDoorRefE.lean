/- The reference's cronEnds. Walked. (wip/gen/gen_refe.py) -/
import Derived.Test.YtomkhhpigpilfaaGreatDoorRefP
set_option linter.unusedVariables false
set_option linter.unusedSimpArgs false
namespace Go.Proofs.YtomkhhpigpilfaaGreatDoor
open Go.RowKit

def dayB (k : Nat) : Bool := decide (k = 3 ∨ k = 5)
def endK (k : Nat) (l : List UInt8) : EndR := endsR (kLo k) (kHi k) (dayB k) (valR k) (cut 45 l)
def RetE (e : EndR) : Value := .tuple #[.int .i64 (e.low : Nat), .int .i64 (e.high : Nat), .bool e.star, .bool e.single, .int .i64 (e.vd : Nat)]
theorem valR_vd (k : Nat) (l : List UInt8) : (valR k l).2 ≤ 2 := by
  unfold valR
  split
  · exact Nat.le_succ 1
  · split
    · exact Nat.le_refl 2
    · exact numR_vd l
theorem kcells_gr {w : World} {g k : Nat} {t : TypeId} {lo hi : Nat} (h : Blk w g t #[.int .i64 lo, .int .i64 hi, .int .i64 k]) (d : Nat) (os : Array Obj) :
    (Go.Sort.grow (redrawn w d) os).cell? ⟨g, 0, none⟩ = some (.int .i64 lo) ∧ (Go.Sort.grow (redrawn w d) os).cell? ⟨g, 1, none⟩ = some (.int .i64 hi) ∧ (Go.Sort.grow (redrawn w d) os).cell? ⟨g, 2, none⟩ = some (.int .i64 k) :=
  ⟨(blk_gr h d os).cell 0, (blk_gr h d os).cell 1, (blk_gr h d os).cell 2⟩

set_option maxHeartbeats 3200000 in
set_option maxRecDepth 100000 in
theorem ends_any (k : Nat) (hk : k ≤ 5) (s : ByteArray) (hs : s.size ≤ 65536) (w : World) : Calls Tryz.prog 111 #[.agg #[.int .i64 (kLo k : Nat), .int .i64 (kHi k : Nat), .int .i64 k], .string s] w fun e w' => e = .returned (RetE (endK k s.toList)) ∧ Below w.heap.size w w' := by
  have CV := hid (fun (x : ByteArray) (hx : x.size ≤ 65536) w => value_any k hk x hx w)
  have CP := hid (fun w => piecesH s hs w)
  have CW := hid (fun a b ha hb w => worse_any a b ha hb w)
  have HEK := hid (show endK k s.toList = endsR (kLo k) (kHi k) (dayB k) (valR k) (cut 45 s.toList) from rfl)
  have HDAY := hid (show dayB k = decide (k = 3 ∨ k = 5) from rfl)
  have HVD := hid (fun l => valR_vd k l)
  have HS := hid hs
  have hk5 := hk
  obtain ⟨lo, hlo⟩ : ∃ lo, kLo k = lo := ⟨_, rfl⟩
  obtain ⟨hi, hhi⟩ : ∃ hi, kHi k = hi := ⟨_, rfl⟩
  rw [hlo, hhi] at HEK ⊢
  generalize endK k s.toList = E at HEK ⊢
  clear hs hk hlo hhi
  go_enter Tryz.func111, Tryz.ntmps111
  go_wp2_with fail
  have R0 := hid (Blk.new w 164 #[.int .i64 lo, .int .i64 hi, .int .i64 k])
  have B0 := hid (show Below w.heap.size w (w.alloc (.cells #[.int .i64 lo, .int .i64 hi, .int .i64 k] 164)) by go_grown)
  generalize (w.alloc (.cells #[.int .i64 lo, .int .i64 hi, .int .i64 k] 164)) = w0 at R0 B0 ⊢
  go_at_call 102
  refine (CP.out _).mono ?_
  rintro e w2 ⟨ys, h, c2, rfl, hy, hst, hb⟩
  obtain ⟨y0, yr, rfl⟩ := parts_cons hy
  have HY := hid hy
  have S2 := hid hst
  have hy0 := hst 0 y0 rfl
  have R2 := hid (R0.out.below hb)
  have B2 := hid (bq B0.out hb)
  clear hb hst hy
  obtain ⟨m, hm⟩ : ∃ m : Nat, (y0 :: yr).length = m := ⟨_, rfl⟩
  have m1 : 1 ≤ m := by rw [← hm]; simp
  have MM := hid hm
  rw [hm]
  clear hm R0 B0
  have HE := hid (show E = endsR lo hi (dayB k) (valR k) (y0.toList :: yr.map (·.toList)) by rw [HEK.out, ← HY.out]; rfl)
  have r2 : w2.cell? ⟨w.heap.size, 2, none⟩ = some (.int .i64 k) := R2.out.cell 2
  obtain ⟨q1, hq1⟩ : ∃ q, (y0.toList == [42]) = q := ⟨_, rfl⟩
  obtain ⟨q2, hq2⟩ : ∃ q, (y0.toList == [63]) = q := ⟨_, rfl⟩
  have HQ2 := hid hq2
  have HST := hid (show starT y0.toList = (q1 || q2) by unfold starT; rw [hq1, hq2])
  rcases q1 with _ | _
  · rcases q2 with _ | _
    · have HNS := hid (show ¬ starT y0.toList = true by rw [HST.out]; decide)
      clear HST r2
      have z0 : y0.size ≤ 65536 := by have := part_size HY.out (List.mem_cons_self); have := HS.out; omega
      obtain ⟨n1, hn1⟩ : ∃ n, (valR k y0.toList).1 = n := ⟨_, rfl⟩
      obtain ⟨v1, hv1⟩ : ∃ n, (valR k y0.toList).2 = n := ⟨_, rfl⟩
      have hv12 : v1 ≤ 2 := by rw [← hv1]; exact HVD.out _
      have HP1 := hid (Prod.ext hn1 hv1 : valR k y0.toList = (n1, v1))
      have C0 := hid (fun w => CV.out y0 z0 w)
      rw [HP1.out] at C0
      have C := hid (fun d os => Calls.regrown_of (show Calls Tryz.prog 119 #[.int .i64 k, .string y0] (Go.Sort.grow (redrawn w2 d) os) fun e w' => e = .returned (.tuple #[.int .i64 n1, .int .i64 v1]) ∧ Below (Go.Sort.grow (redrawn w2 d) os).heap.size (Go.Sort.grow (redrawn w2 d) os) w' from C0.out _))
      have l2 := fun d os => (kcells_gr R2.out d os).2.2
      have k0 : ∀ d os, (Go.Sort.grow (redrawn w2 d) os).cell? ⟨h, 0, none⟩ = some (.string y0) := fun d os => cell_gr hy0 d os
      clear hn1 hv1 z0 C0
      go_upto_region 7 with fail
      refine wp_region_quiet_below (by kernel_rfl) (by kernel_rfl) ?_
      repeat (go_big_quiet_step ((first | (go_at_call 119; exact C.out _ _) | fail)))
      refine wpQuiet_nil ?_
      intro _ hw'
      obtain ⟨⟨dq, osq⟩, hw''⟩ := hw'
      subst hw''
      have R3 := hid (blk_gr R2.out dq osq)
      have B3 := hid (bq B2.out (below_regrown w2 dq osq))
      have Y3 := hid (S2.out.below (below_regrown w2 dq osq))
      clear l2 k0 C R2 B2 S2 hy0
      generalize Go.Sort.grow (redrawn w2 dq) osq = w3 at R3 B3 Y3 ⊢
      rcases yr with _ | ⟨y1, _ | ⟨y2, yr⟩⟩
      · obtain rfl : m = 1 := MM.out.symm
        have HEV := hid (show E = ⟨n1, n1, false, true, v1⟩ by rw [HE.out]; show endsR lo hi (dayB k) (valR k) [y0.toList] = _; rw [endsR_one _ _ _ _ _ HNS.out, HP1.out])
        go_wp2_with fail
        go_returns
        exact ⟨by rw [HEV.out]; rfl, B3.out⟩
      · obtain rfl : m = 2 := MM.out.symm
        have z1 : y1.size ≤ 65536 := by have := part_size HY.out (List.mem_cons_of_mem _ (List.mem_cons_self)); have := HS.out; omega
        obtain ⟨n2, hn2⟩ : ∃ n, (valR k y1.toList).1 = n := ⟨_, rfl⟩
        obtain ⟨v2, hv2⟩ : ∃ n, (valR k y1.toList).2 = n := ⟨_, rfl⟩
        have hv22 : v2 ≤ 2 := by rw [← hv2]; exact HVD.out _
        have HP2 := hid (Prod.ext hn2 hv2 : valR k y1.toList = (n2, v2))
        have C0 := hid (fun w => CV.out y1 z1 w)
        rw [HP2.out] at C0
        have C := hid (fun d os => Calls.regrown_of (show Calls Tryz.prog 119 #[.int .i64 k, .string y1] (Go.Sort.grow (redrawn w3 d) os) fun e w' => e = .returned (.tuple #[.int .i64 n2, .int .i64 v2]) ∧ Below (Go.Sort.grow (redrawn w3 d) os).heap.size (Go.Sort.grow (redrawn w3 d) os) w' from C0.out _))
        have HW := hid (fun w => CW.out v1 v2 hv12 hv22 w)
        have HEV := hid (show E = ⟨n1, n2, false, false, worse v1 v2⟩ by rw [HE.out]; show endsR lo hi (dayB k) (valR k) [y0.toList, y1.toList] = _; rw [endsR_two _ _ _ _ _ _ HNS.out, HP1.out, HP2.out])
        clear hn2 hv2 z1 C0
        have l2 := fun d os => (kcells_gr R3.out d os).2.2
        have k1 : ∀ d os, (Go.Sort.grow (redrawn w3 d) os).cell? ⟨h, 1, none⟩ = some (.string y1) := fun d os => cell_gr (Y3.out 1 y1 rfl) d os
        go_upto_region 12 with fail
        refine wp_region_quiet_below (by kernel_rfl) (by kernel_rfl) ?_
        repeat (go_big_quiet_step ((first | (go_at_call 119; exact C.out _ _) | fail)))
        refine wpQuiet_nil ?_
        intro _ hw'
        obtain ⟨⟨dq, osq⟩, hw''⟩ := hw'
        subst hw''
        have B4 := hid (bq B3.out (below_regrown w3 dq osq))
        clear l2 k1 C R3 Y3
        generalize Go.Sort.grow (redrawn w3 dq) osq = w4 at B4 ⊢
        go_wp2_with (go_at_call 60; refine (HW.out _).mono ?_; rintro e w' ⟨rfl, rfl⟩)
        go_returns
        exact ⟨by rw [HEV.out]; rfl, B4.out⟩
      · have e1 : ((m : Int) == 1) = false := by have := MM.out; simp at this; rw [beq_eq_false_iff_ne]; omega
        have e2 : ((m : Int) == 2) = false := by have := MM.out; simp at this; rw [beq_eq_false_iff_ne]; omega
        have HEV := hid (show E = ⟨0, 0, false, false, 0⟩ by rw [HE.out]; show endsR lo hi (dayB k) (valR k) (y0.toList :: y1.toList :: y2.toList :: yr.map (·.toList)) = _; rw [endsR_more _ _ _ _ _ _ _ _ HNS.out])
        go_wp2_with fail
        go_returns
        exact ⟨by rw [HEV.out]; rfl, B3.out⟩
    · have HT := hid (show starT y0.toList = true from HST.out)
      clear HST
      rcases yr with _ | ⟨y1, yr⟩
      · obtain rfl : m = 1 := MM.out.symm
        by_cases h3 : k = 3
        · have e3 : ((k : Int) == 3) = true := by rw [beq_iff_eq]; omega
          have f3 : ((k : Int) != 3) = false := by unfold bne; rw [e3]; rfl
          have HEV := hid (show E = ⟨lo, hi, true, true, 1⟩ by rw [HE.out, endsR_star _ _ _ _ _ _ HT.out, HDAY.out, decide_eq_true (.inl h3)]; simp)
          clear h3
          go_upto_region 6 with fail
          have l0 := fun d os => (kcells_gr R2.out d os).1
          have l1 := fun d os => (kcells_gr R2.out d os).2.1
          refine wp_region_quiet_below (by kernel_rfl) (by kernel_rfl) ?_
          repeat (go_big_quiet_step (fail))
          refine wpQuiet_nil ?_
          intro _ hw'
          obtain ⟨⟨dq, osq⟩, hw''⟩ := hw'
          subst hw''
          have B3 := hid (bq B2.out (below_regrown w2 dq osq))
          clear l0 l1
          generalize Go.Sort.grow (redrawn w2 dq) osq = w3 at B3 ⊢
          go_wp2_with fail
          go_returns
          exact ⟨by rw [HEV.out]; rfl, B3.out⟩
        have e3 : ((k : Int) == 3) = false := by rw [beq_eq_false_iff_ne]; omega
        have f3 : ((k : Int) != 3) = true := by unfold bne; rw [e3]; rfl
        by_cases h5 : k = 5
        · have e5 : ((k : Int) == 5) = true := by rw [beq_iff_eq]; omega
          have f5 : ((k : Int) != 5) = false := by unfold bne; rw [e5]; rfl
          have HEV := hid (show E = ⟨lo, hi, true, true, 1⟩ by rw [HE.out, endsR_star _ _ _ _ _ _ HT.out, HDAY.out, decide_eq_true (.inr h5)]; simp)
          clear h3 h5
          go_upto_region 6 with fail
          have l0 := fun d os => (kcells_gr R2.out d os).1
          have l1 := fun d os => (kcells_gr R2.out d os).2.1
          refine wp_region_quiet_below (by kernel_rfl) (by kernel_rfl) ?_
          repeat (go_big_quiet_step (fail))
          refine wpQuiet_nil ?_
          intro _ hw'
          obtain ⟨⟨dq, osq⟩, hw''⟩ := hw'
          subst hw''
          have B3 := hid (bq B2.out (below_regrown w2 dq osq))
          clear l0 l1
          generalize Go.Sort.grow (redrawn w2 dq) osq = w3 at B3 ⊢
          go_wp2_with fail
          go_returns
          exact ⟨by rw [HEV.out]; rfl, B3.out⟩
        · have e5 : ((k : Int) == 5) = false := by rw [beq_eq_false_iff_ne]; omega
          have f5 : ((k : Int) != 5) = true := by unfold bne; rw [e5]; rfl
          have HEV := hid (show E = ⟨lo, hi, true, true, 2⟩ by rw [HE.out, endsR_star _ _ _ _ _ _ HT.out, HDAY.out, decide_eq_false (fun h => h.elim h3 h5), HQ2.out]; simp)
          clear h3 h5
          go_upto_region 6 with fail
          have l0 := fun d os => (kcells_gr R2.out d os).1
          have l1 := fun d os => (kcells_gr R2.out d os).2.1
          refine wp_region_quiet_below (by kernel_rfl) (by kernel_rfl) ?_
          repeat (go_big_quiet_step (fail))
          refine wpQuiet_nil ?_
          intro _ hw'
          obtain ⟨⟨dq, osq⟩, hw''⟩ := hw'
          subst hw''
          have B3 := hid (bq B2.out (below_regrown w2 dq osq))
          clear l0 l1
          generalize Go.Sort.grow (redrawn w2 dq) osq = w3 at B3 ⊢
          go_wp2_with fail
          go_returns
          exact ⟨by rw [HEV.out]; rfl, B3.out⟩
      · have g1 : (1 : Int) < (m : Int) := by have := MM.out; simp at this; omega
        have e1 : ((m : Int) == 1) = false := by rw [beq_eq_false_iff_ne]; omega
        have HEV := hid (show E = ⟨lo, hi, true, false, 2⟩ by rw [HE.out, endsR_star _ _ _ _ _ _ HT.out]; simp)
        go_upto_region 6 with fail
        have l0 := fun d os => (kcells_gr R2.out d os).1
        have l1 := fun d os => (kcells_gr R2.out d os).2.1
        refine wp_region_quiet_below (by kernel_rfl) (by kernel_rfl) ?_
        repeat (go_big_quiet_step (fail))
        refine wpQuiet_nil ?_
        intro _ hw'
        obtain ⟨⟨dq, osq⟩, hw''⟩ := hw'
        subst hw''
        have B3 := hid (bq B2.out (below_regrown w2 dq osq))
        clear l0 l1
        generalize Go.Sort.grow (redrawn w2 dq) osq = w3 at B3 ⊢
        go_wp2_with fail
        go_returns
        exact ⟨by rw [HEV.out]; rfl, B3.out⟩
  · have HQ1 := hid hq1
    have hq3 : (y0.toList == [63]) = false := by
      have h42 : y0.toList = [42] := by simpa using hq1
      rw [h42]; rfl
    clear hq2
    have HT := hid (show starT y0.toList = true from HST.out)
    clear HST
    rcases yr with _ | ⟨y1, yr⟩
    · obtain rfl : m = 1 := MM.out.symm
      have HEV := hid (show E = ⟨lo, hi, true, true, 1⟩ by
        rw [HE.out, endsR_star _ _ _ _ _ _ HT.out]
        have : (y0.toList == [63]) = false := by
          have h42 : y0.toList = [42] := by simpa using HQ1.out
          rw [h42]; rfl
        simp [this])
      go_upto_region 6 with fail
      have l0 := fun d os => (kcells_gr R2.out d os).1
      have l1 := fun d os => (kcells_gr R2.out d os).2.1
      refine wp_region_quiet_below (by kernel_rfl) (by kernel_rfl) ?_
      repeat (go_big_quiet_step (fail))
      refine wpQuiet_nil ?_
      intro _ hw'
      obtain ⟨⟨dq, osq⟩, hw''⟩ := hw'
      subst hw''
      have B3 := hid (bq B2.out (below_regrown w2 dq osq))
      clear l0 l1
      generalize Go.Sort.grow (redrawn w2 dq) osq = w3 at B3 ⊢
      go_wp2_with fail
      go_returns
      exact ⟨by rw [HEV.out]; rfl, B3.out⟩
    · have g1 : (1 : Int) < (m : Int) := by have := MM.out; simp at this; omega
      have e1 : ((m : Int) == 1) = false := by rw [beq_eq_false_iff_ne]; omega
      have HEV := hid (show E = ⟨lo, hi, true, false, 2⟩ by rw [HE.out, endsR_star _ _ _ _ _ _ HT.out]; simp)
      go_upto_region 6 with fail
      have l0 := fun d os => (kcells_gr R2.out d os).1
      have l1 := fun d os => (kcells_gr R2.out d os).2.1
      refine wp_region_quiet_below (by kernel_rfl) (by kernel_rfl) ?_
      repeat (go_big_quiet_step (fail))
      refine wpQuiet_nil ?_
      intro _ hw'
      obtain ⟨⟨dq, osq⟩, hw''⟩ := hw'
      subst hw''
      have B3 := hid (bq B2.out (below_regrown w2 dq osq))
      clear l0 l1
      generalize Go.Sort.grow (redrawn w2 dq) osq = w3 at B3 ⊢
      go_wp2_with fail
      go_returns
      exact ⟨by rw [HEV.out]; rfl, B3.out⟩
end Go.Proofs.YtomkhhpigpilfaaGreatDoor
