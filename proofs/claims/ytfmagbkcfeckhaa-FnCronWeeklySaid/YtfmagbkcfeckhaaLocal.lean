/- The reference's CronLocal: FoundF or NothingF. Walked. -/
import Derived.Test.YtfmagbkcfeckhaaLocalP
import Derived.Deep.DeepCutAuto
set_option linter.unusedVariables false
set_option linter.unusedSimpArgs false
namespace Go.Proofs.Ytfmagbkcfeckhaa
open Go.RowKit

def LocSays (e : Ending) (F : Nat → Bool) (a lim : Int) : Prop :=
  (∃ l, e = .returned (.tuple #[.int .i64 l, .bool true]) ∧ FoundF F a lim l) ∨ (∃ l, e = .returned (.tuple #[.int .i64 l, .bool false]) ∧ NothingF F a lim)
theorem sum_in {x t : Int} (h : -9223372036854775808 ≤ x ∧ x + 86399 < 4611686018427387904) (h1 : 0 ≤ t) (h2 : t < 86400) : IntKind.i64.wrap (x + t) = x + t := by
  refine IntWalk.i64_in _ ?_
  omega
theorem sum_lt {x t : Int} (h : -9223372036854775808 ≤ x ∧ x + 86399 < 4611686018427387904) (h2 : t < 86400) : x + t < 4611686018427387904 := by omega
/-- What holds ahead of each round: the day, the second on it, the date's block. -/
def LInv (F : Nat → Bool) (a : Int) (w : World) (v10 v11 v12 : Value) (wr : World) : Prop := ∃ (day t : Int) (g : Nat), v10 = .int .i64 day ∧ v11 = .int .i64 t ∧ v12 = .pointer (some ⟨g, 0, none⟩) ∧ Blk wr g 72 (dcells day) ∧ Blk wr w.heap.size 47 (bcells 384 F) ∧ Below w.heap.size w wr ∧ w.heap.size < g ∧ -720000 ≤ day ∧ day ≤ 2960001 ∧ 0 ≤ t ∧ t < 86400 ∧ a ≤ 86400 * day + t ∧ noFitF F a (86400 * day + t)
def TimeOut (e : Ending) (F : Nat → Bool) (a : Int) : Prop := ∃ t, e = .returned (.int .i64 t) ∧ TimeSays F a t

set_option maxHeartbeats 3200000 in
set_option maxRecDepth 100000 in
theorem local_any (F : Nat → Bool) (a lim : Int) (w : World) (a1 : -62200000000 ≤ a) (a2 : a ≤ 253500000000) (l2 : lim ≤ 10010) :
    Calls Try.prog 34 #[.agg (bcells 384 F), .int .i64 a, .int .i64 4611686018427387904, .int .i64 lim] w fun e w' => LocSays e F a lim ∧ Below w.heap.size w w' := by
  have B := hid (show Below w.heap.size w (w.alloc (.cells (bcells 384 F) 47)) by go_grown)
  have KF := hid (Blk.new w 47 (bcells 384 F))
  have U := hid (Try.underlying47)
  have N := hid (show (Try.prog.info? 47).map (·.size) = some (bcells 384 F).toList.length by rw [bcells_len]; kernel_rfl)
  have L0 := hid (fun (X : World) (g : Nat) (h : Blk X g 47 (bcells 384 F)) => show X.rangeAt g 0 (bcells 384 F).toList by
    have := h.range_b (o := 0) (m := 384) (by omega)
    rwa [show (fun i => F (0 + i)) = F from funext fun i => by rw [Nat.zero_add]] at this)
  have CNV := hid (fun X => never_any F X)
  obtain ⟨nv, hnv⟩ : ∃ b, neverB F = b := ⟨_, rfl⟩
  rw [hnv] at CNV
  have HNV := hid hnv
  clear hnv
  obtain ⟨d0, hd0⟩ : ∃ d, a / 86400 = d := ⟨_, rfl⟩
  have CF := hid (fun X => fd_86400 a X (by omega) (by omega))
  rw [hd0] at CF
  have q1 : -720000 ≤ d0 := by omega
  have q2 : d0 ≤ 2940000 := by omega
  have q3 : 0 ≤ a - 86400 * d0 ∧ a - 86400 * d0 < 86400 := by omega
  have CD := hid (fun X => dateP_any d0 X q1 (by omega))
  have v1 : IntKind.i64.wrap (86400 * d0) = 86400 * d0 := IntWalk.i64_in _ (by omega)
  have v2 : IntKind.i64.wrap (a - 86400 * d0) = a - 86400 * d0 := IntWalk.i64_in _ (by omega)
  have v1' : wrap64 (86400 * d0) = 86400 * d0 := by unfold wrap64; omega
  have v2' : wrap64 (a - 86400 * d0) = a - 86400 * d0 := by unfold wrap64; omega
  obtain ⟨t0, ht0⟩ : ∃ t, a - 86400 * d0 = t := ⟨_, rfl⟩
  have HST := hid (show noFitF F a (86400 * d0 + t0) from fun l h1 h2 => by omega)
  have HAL := hid (show a ≤ 86400 * d0 + t0 by omega)
  rw [ht0] at v2 v2' q3
  have HA0 := hid (show -1000000 ≤ a / 86400 by omega)
  have HT0 := hid ht0
  clear hd0 ht0
  go_enter Try.func34, Try.ntmps34
  go_upto_region 1 with fail
  generalize (w.alloc (.cells (bcells 384 F) 47)) = w1 at B KF ⊢
  rcases nv with _ | _
  · go_upto_region 5 with (first
      | (refine wpList_load_mid rfl 47 (.tmp 4) rfl w.heap.size 0 rfl (bcells 384 F).toList _ (L0.out _ _ KF.out) U.out rfl N.out ?_)
      | (go_at_call 23; refine (CNV.out _).mono ?_; rintro e w2 ⟨rfl, hb⟩; have K2 := hid (KF.out.below hb); have B2 := hid (bt B.out hb); clear hb)
      | (go_at_call 32; refine (CF.out _).mono ?_; rintro e w' ⟨rfl, rfl⟩))
    clear v1 v2 v1' v2' CF CNV a1 a2
    go_wp2_with (first
      | (go_at_call 31; refine (CD.out _).mono ?_; rintro e w3 ⟨rfl, hb⟩; have K3 := hid (K2.out.below hb); have B3 := hid (bt B2.out hb); clear hb))
    have R4 := hid (Blk.new w3 72 (dcells d0))
    have K4 := hid (K3.out.alloc (.cells (dcells d0) 72))
    have B4 := hid (show Below w.heap.size w (w3.alloc (.cells (dcells d0) 72)) from bt B3.out (by go_grown))
    have G4 := hid K3.out.lt
    clear B K2 B2 KF B3 K3 CD
    generalize (w3.alloc (.cells (dcells d0) 72)) = w4 at R4 K4 B4 ⊢
    obtain ⟨g4, hg4⟩ : ∃ g, w3.heap.size = g := ⟨_, rfl⟩
    rw [hg4] at R4 G4 ⊢
    clear hg4
    go_loopw [10, 11, 12] (fun v10 v11 v12 wr => LInv F a w v10 v11 v12 wr) (fun v _ _ _ => (3000000 - intOf v).toNat)
    case atStart => exact ⟨d0, t0, g4, rfl, by rw [HT0.out], rfl, R4.out, K4.out, B4.out, G4.out, q1, by omega, q3.1, q3.2, HAL.out, HST.out⟩
    case round =>
      obtain ⟨day, t, g, rfl, rfl, rfl, hr, hk, hb, hg, y1, y2, t1, t2, hal, hnf⟩ := hrel
      have R := hid hr
      have K := hid hk
      have B := hid hb
      have AL := hid hal
      have NF := hid hnf
      clear hr hk hb hal hnf R4 K4 B4 G4 HAL HST HT0 q1 q2 q3
      have r0 := R.out.cell 0
      have z1 : -9223372036854775808 ≤ 86400 * day ∧ 86400 * day ≤ 9223372036854775807 := by omega
      have u2 : 86400 * day < 4611686018427387904 := by omega
      have z3 : -9223372036854775808 ≤ day + 1 ∧ day + 1 ≤ 9223372036854775807 := by omega
      have u0 : -9223372036854775808 ≤ 86400 * day ∧ 86400 * day + 86399 < 4611686018427387904 := by omega
      by_cases hc : yP day ≤ lim
      · have y3 := year_3000000 (day := day) (by omega) (by omega) (by omega)
        have Q9 := hid (show -720000 ≤ day + 1 ∧ day + 1 ≤ 2960001 ∧ a ≤ 86400 * (day + 1) + 0 from ⟨by omega, by omega, by have := AL.out; omega⟩)
        have Q10 := hid (show (3000000 - (day + 1)).toNat < (3000000 - day).toNat by omega)
        have x3 : -1000000 ≤ day := by omega
        have x4 : day ≤ 3000000 := by omega
        obtain ⟨p1, p2, p3, p4⟩ := mP_bounds (day := day) x3 (Int.le_trans x4 (by decide))
        have p5 := Int.le_trans p4 (md_pos (yP day) (mP day)).2
        obtain ⟨M, hM⟩ : ∃ M : Nat, mP day = M := Int.eq_ofNat_of_zero_le (Int.le_trans (by decide) p1)
        obtain ⟨D, hD⟩ : ∃ D : Nat, dP day = D := Int.eq_ofNat_of_zero_le (Int.le_trans (by decide) p3)
        have y6 := wdN_le day
        have q7 : (M : Int) ≤ 12 := hM ▸ p2
        have q8 : (D : Int) ≤ 31 := hD ▸ p5
        have eM : (mP day).toNat = M := by rw [hM]; exact Int.toNat_natCast M
        have eD : (dP day).toNat = D := by rw [hD]; exact Int.toNat_natCast D
        clear p1 p2 p3 p4 p5
        have CW := hid (fun X => weekdayN_any day X y1 x4)
        have CFT := hid (fun X => dayFits_any F (yP day) (mP day) D (wdN day) X (Int.ofNat_le.1 q8) y6)
        have CT := hid (fun X => tomorrow_any day X y1 x4)
        have m0 : (0 : Int) ≤ M := Int.natCast_nonneg M
        have m1 : (M : Int) < 63 := Int.lt_of_le_of_lt q7 (by decide)
        have ND := hid (fun h => nf_day (F := F) (a := a) t1 NF.out h)
        have FD := hid (fun s (f1 : F (257 + (mP day).toNat) = true) f2 s1 s2 f3 f4 => found_day (F := F) (t := s) x4 t1 AL.out hc NF.out f1 f2 s1 s2 f3 f4)
        rw [eM, eD] at ND FD
        have CTM := hid (fun X => cronTime_any F t X t1 t2)
        have hM62 : 257 + M < 384 := by have := Int.ofNat_le.1 q7; clear hM hD eM eD ND FD; omega
        obtain ⟨x, hx⟩ : ∃ x, F (257 + M) = x := ⟨_, rfl⟩
        obtain ⟨y, hy⟩ : ∃ y, fitF F D (wdN day) = y := ⟨_, rfl⟩
        rw [hy] at CFT
        rw [hx, hy] at ND FD
        have k0 : ∀ d os, (Go.Sort.grow (redrawn wr d) os).cell? ⟨g, 0, none⟩ = some (.int .i64 (yP day)) := fun d os => (blk_gr R.out d os).cell 0
        have k1 : ∀ d os, (Go.Sort.grow (redrawn wr d) os).cell? ⟨g, 1, none⟩ = some (.int .i64 M) := fun d os => hM ▸ (blk_gr R.out d os).cell 1
        have k2 : ∀ d os, (Go.Sort.grow (redrawn wr d) os).cell? ⟨g, 2, none⟩ = some (.int .i64 D) := fun d os => hD ▸ (blk_gr R.out d os).cell 2
        have kx : ∀ d os, (Go.Sort.grow (redrawn wr d) os).cell? ⟨w.heap.size, 257 + M, none⟩ = some (.bool x) := fun d os => by rw [(blk_gr K.out d os).cell, bcells_get hM62, hx]
        rw [hM] at CFT
        have LR := hid (fun (X : World) (h : ∃ p : Regrown, X = Go.Sort.grow (redrawn wr p.d) p.os) => show X.rangeAt w.heap.size 0 (bcells 384 F).toList by
          obtain ⟨p, rfl⟩ := h
          exact L0.out _ _ (blk_gr K.out p.d p.os))
        have HM := hid hM
        have HD := hid hD
        obtain ⟨W, hW⟩ : ∃ W, wdN day = W := ⟨_, rfl⟩
        obtain ⟨Y, hY⟩ : ∃ Y, yP day = Y := ⟨_, rfl⟩
        rw [hW] at CW CFT
        rw [hY] at CFT hc k0
        have rr0 : wr.cell? ⟨g, 0, none⟩ = some (.int .i64 Y) := hY ▸ r0
        have DC := hid (show dcells day = #[.int .i64 Y, .int .i64 M, .int .i64 D] by rw [← hY, ← hM, ← hD])
        rw [DC.out] at CT
        have C1 := hid (fun d os => Calls.regrown_of ((CW.out (Go.Sort.grow (redrawn wr d) os)).mono fun e w' (h : _ ∧ _) => ⟨h.1, h.2 ▸ Below.refl _ _⟩))
        have C2 := hid (fun d os => Calls.regrown_of (CFT.out (Go.Sort.grow (redrawn wr d) os)))
        clear hx hy hM hD hW hY y6 q7 q8 eM eD hM62 r0 CW CFT
        have u1 : IntKind.i64.wrap (86400 * day) = 86400 * day := IntWalk.i64_in _ z1
        have u3 : IntKind.i64.wrap (day + 1) = day + 1 := IntWalk.i64_in _ z3
        rcases (show (x = false) ∨ (x = true ∧ y = false) ∨ (x = true ∧ y = true) by cases x <;> cases y <;> simp) with rfl | ⟨rfl, rfl⟩ | ⟨rfl, rfl⟩
        all_goals
          go_upto_region 8 with fail
          refine wp_region_quiet_below (by kernel_rfl) (by kernel_rfl) ?_
          repeat (first
            | (refine wpQuiet_load rfl 47 (.tmp 4) rfl w.heap.size 0 rfl (bcells 384 F).toList _ LR.out U.out rfl N.out ?_; simp only [Act.put, List.setIfInBounds_toArray, List.set_cons_succ, List.set_cons_zero, Array.toArray_toList])
            | (go_big_quiet_step ((first | (go_at_call 44; exact C1.out _ _) | (go_at_call 48; exact C2.out _ _) | fail))))
          refine wpQuiet_nil ?_
          intro _ hw'
          obtain ⟨⟨dq, osq⟩, hw''⟩ := hw'
          subst hw''
          have R6 := hid (DC.out ▸ (blk_gr R.out dq osq))
          have K6 := hid (blk_gr K.out dq osq)
          have B6 := hid (bt B.out (below_regrown wr dq osq))
          clear k0 k1 k2 kx rr0
          generalize Go.Sort.grow (redrawn wr dq) osq = w6 at R6 K6 B6 ⊢
          have c0 := R6.out.cell 0
          have c1 := R6.out.cell 1
          have c2 := R6.out.cell 2
          go_wp2_with (first
            | (refine wpList_load_mid rfl 47 (.tmp 4) rfl w.heap.size 0 rfl (bcells 384 F).toList _ (L0.out _ _ K6.out) U.out rfl N.out ?_; clear c0 c1 c2)
            | (go_at_call 49; refine (CTM.out _).mono ?_; rintro e w6 ⟨⟨tt, rfl, hts⟩, hb⟩; have R7 := hid (R6.out.below hb); have K7 := hid (K6.out.below hb); have B7 := hid (bt B6.out hb); clear hb R6 K6 B6; have R6 := R7; have K6 := K7; have B6 := B7; clear R7 K7 B7; have c0 := R6.out.cell 0; have c1 := R6.out.cell 1; have c2 := R6.out.cell 2; rcases hts with ⟨s1, s2, f3, f4⟩ | ⟨rfl, f4⟩; all_goals (first | (obtain ⟨z, hz⟩ : ∃ z, 86400 * day + tt = z := ⟨_, rfl⟩; have HZ := hid hz; have FD2 := hid (hz ▸ FD.out tt rfl rfl s1 s2 f3 f4); have j0 : 0 ≤ tt := Int.le_trans t1 s1; have j1 : IntKind.i64.wrap (86400 * day + tt) = z := hz ▸ sum_in u0 (Int.le_trans t1 s1) s2; have j2 : z < 4611686018427387904 := hz ▸ sum_lt u0 s2; clear hz s1 s2 f3 f4) | (have F4 := hid f4; clear f4)))
            | (go_at_call 47; refine (CT.out _).mono ?_; rintro e w8 ⟨rfl, hb⟩; have R8 := hid ((Blk.new _ 72 #[.int .i64 Y, .int .i64 M, .int .i64 D]).below hb); have K8 := hid ((K6.out.alloc (.cells #[.int .i64 Y, .int .i64 M, .int .i64 D] 72)).below hb); have B8 := hid (bt (bt B6.out (by go_grown)) hb); clear hb)
            | (refine wpList_store_mid rfl 72 (.tmp 12) (.tmp 35) rfl _ 0 (dcells (day + 1)) rfl rfl (there_b R8.out 3 (Nat.le_refl 3)) (by kernel_rfl) (by simp [Value.oneCell']) ?_; have G9 := hid K6.out.lt; have R9 := hid (set_b3 R8.out (.int .i64 (yP (day + 1))) (.int .i64 (mP (day + 1))) (.int .i64 (dP (day + 1)))); have K9 := hid (Blk.setCells_other (Nat.ne_of_lt K6.out.lt) (dcells (day + 1)).toList 0 _ K8.out); have B9 := hid (below_b3 B8.out (Nat.le_of_lt K6.out.lt) (.int .i64 (yP (day + 1))) (.int .i64 (mP (day + 1))) (.int .i64 (dP (day + 1)))); clear R8 K8 B8; generalize (World.setCells w8 w6.heap.size 0 (dcells (day + 1)).toList) = w9 at R9 K9 B9 ⊢))
          all_goals first
            | (go_returns; exact ⟨.inl ⟨_, rfl, FD2.out⟩, B6.out⟩)
            | (refine ⟨?_, ?_⟩
               · (repeat apply Exists.intro)
                 refine And.intro ?_ rfl
                 exact ⟨day + 1, 0, _, rfl, rfl, rfl, R9.out, K9.out, B9.out, G9.out, Q9.out.1, Q9.out.2.1, Int.le_refl 0, by decide, Q9.out.2.2, by first | exact ND.out | exact ND.out trivial | exact ND.out (.inl trivial) | exact ND.out (.inr (.inl trivial)) | exact ND.out (.inl rfl) | exact ND.out (.inr (.inl rfl)) | exact ND.out (.inr (.inr F4.out))⟩
               · exact Q10.out)
      · have hc2 : lim < yP day := by omega
        have NO := hid (nothing_over (F := F) (lim := lim) (by omega) HA0.out t1 NF.out hc2)
        clear hc2 z1 u2 z3 u0
        go_wp2_with fail
        go_returns
        exact ⟨.inr ⟨_, rfl, NO.out⟩, B.out⟩
  · go_wp2_with (first
      | (refine wpList_load_mid rfl 47 (.tmp 4) rfl w.heap.size 0 rfl (bcells 384 F).toList _ (L0.out _ _ KF.out) U.out rfl N.out ?_)
      | (go_at_call 23; refine (CNV.out _).mono ?_; rintro e w2 ⟨rfl, hb⟩; have K2 := hid (KF.out.below hb); have B2 := hid (bt B.out hb); clear hb))
    go_returns
    exact ⟨.inr ⟨_, rfl, fun l _ _ _ => never_no HNV.out l⟩, B2.out⟩
end Go.Proofs.Ytfmagbkcfeckhaa
