/- gotime.Date at a location that keeps one offset: the moment of a date and a time of day on its clocks. Walked. -/
import Derived.Test.YtjbafphoemibaaaGreatDoorLocF
set_option linter.unusedVariables false
set_option linter.unusedSimpArgs false
namespace Go.Proofs.YtjbafphoemibaaaGreatDoor
open Go.RowKit

theorem unixTimeN_any (s n e : Int) (w : World) (h0 : 0 ≤ n) (h1 : n < 1000000000) (he : s + 62135596800 = e) (h2 : -1000000000000 ≤ e) (h3 : e ≤ 1000000000000) : Calls Tryz.prog 52 #[.int .i64 s, .int .i32 n] w fun e' w' => e' = .returned (.agg (tcells n e none)) ∧ Below w.heap.size w w' := by
  have e1 : IntKind.u64.wrap n = n := IntWalk.u64_in _ (by omega)
  have e2 : IntKind.i64.wrap (s + 62135596800) = e := by rw [he]; exact IntWalk.i64_in _ (by clear e1; omega)
  clear he
  go_enter Tryz.func52, Tryz.ntmps52
  go_wp2
  go_returns
  exact ⟨rfl, by go_grown⟩

set_option maxHeartbeats 3200000 in
set_option maxRecDepth 100000 in
theorem dateN_walk (Y M Y' M' D h mi sc n off l : Int) (g : Nat) (b : Bool) (w : World) (hN : ∀ w, Calls Tryz.prog 136 #[.int .i64 Y, .int .i64 (M - 1), .int .i64 12] w fun e w' => e = .returned (.tuple #[.int .i64 Y', .int .i64 (M' - 1)]) ∧ w = w')
    (m1 : 1 ≤ M) (m2 : M ≤ 13) (hM1 : 1 ≤ M') (hM2 : M' ≤ 12) (hY1 : -1000 ≤ Y') (hY2 : Y' ≤ 50000) (hD1 : 1 ≤ D) (hD2 : D ≤ 40) (hh0 : 0 ≤ h) (hh1 : h < 24) (hm0 : 0 ≤ mi) (hm1 : mi < 60) (hs0 : 0 ≤ sc) (hs1 : sc < 60) (hn0 : 0 ≤ n) (hn1 : n < 1000000000)
    (hl : 86400 * dayOf Y' M' D + 3600 * h + 60 * mi + sc = l) (nl : near l) (ho : offOk off) (hloc : LocB w g b off) :
    Calls Tryz.prog 121 #[.int .i64 Y, .int .i64 M, .int .i64 D, .int .i64 h, .int .i64 mi, .int .i64 sc, .int .i64 n, .pointer (some ⟨g, 0, none⟩)] w fun e w' => e = .returned (.agg (tcells n (eL off l) (locOf b g))) ∧ Below w.heap.size w w' := by
  obtain ⟨l1, l2⟩ := nl
  obtain ⟨o1, o2⟩ := ho
  have hdb : -1000000 ≤ dayOf Y' M' D ∧ dayOf Y' M' D ≤ 5000000 := by omega
  have CA := hid (fun w => dtad_any Y' M' D w hM1 hM2 hY1 hY2 hD1 hD2)
  have C1 := hid (fun w => norm_same sc n 1000000000 w hn0 hn1)
  have C2 := hid (fun w => norm_same mi sc 60 w hs0 hs1)
  have C3 := hid (fun w => norm_same h mi 60 w hm0 hm1)
  have C4 := hid (fun w => norm_same D h 24 w hh0 hh1)
  have CN := hid hN
  obtain ⟨E, hE⟩ : ∃ E, eL off l = E := ⟨_, rfl⟩
  have hE' : l - off + 62135596800 = E := by rw [← hE]; rfl
  have CU := hid (fun w => unixTimeN_any (l - off) n E w hn0 hn1 hE' (by omega) (by omega))
  obtain ⟨day, hday⟩ : ∃ d, dayOf Y' M' D + 106751991073400 = d := ⟨_, rfl⟩
  rw [hday] at CA
  have B0 : Below w.heap.size w (w.alloc (.cells (tcells 0 0 none) 52)) := by go_grown
  have B := hid B0
  have R := hid (Blk.new w 52 (tcells 0 0 none))
  have L := hid (hloc.below B0)
  have CL := hid (fun X (hx : LocB X g b off) => lookF_any g b off l X hx (by omega) (by omega))
  -- arithmetic
  have wM : IntKind.i64.wrap (M - 1) = M - 1 := IntWalk.i64_in _ (by omega)
  have wM2 : wrap64 (M - 1) = M - 1 := IntWalk.wrap64_in _ (by omega)
  obtain ⟨mm, hmm⟩ : ∃ x, M' - 1 = x := ⟨_, rfl⟩
  have wm1 : mm + 1 = M' := by omega
  have wm2 : IntKind.i64.wrap (mm + 1) = M' := by rw [wm1]; exact IntWalk.i64_in _ (by omega)
  have wm3 : wrap64 (mm + 1) = M' := by rw [wm1]; exact IntWalk.wrap64_in _ (by omega)
  rw [hmm] at CN
  have wd : IntKind.i64.wrap day = day := IntWalk.i64_in _ (by omega)
  have wd2 : wrap64 day = day := IntWalk.wrap64_in _ (by omega)
  obtain ⟨v1, hv1⟩ : ∃ v, IntKind.i64.wrap (day * 86400) = v := ⟨_, rfl⟩
  have hv1' : wrap64 (day * 86400) = v1 := by unfold wrap64; rw [← hv1, IntKind.wrap_i64]
  have a1 := hv1
  rw [IntKind.wrap_i64] at a1
  obtain ⟨v2, hv2⟩ : ∃ v, h * 3600 = v := ⟨_, rfl⟩
  have wv2 : IntKind.i64.wrap (h * 3600) = v2 := by rw [hv2]; exact IntWalk.i64_in _ (by omega)
  have wv2' : wrap64 (h * 3600) = v2 := by rw [hv2]; exact IntWalk.wrap64_in _ (by omega)
  obtain ⟨v3, hv3⟩ : ∃ v, mi * 60 = v := ⟨_, rfl⟩
  have wv3 : IntKind.i64.wrap (mi * 60) = v3 := by rw [hv3]; exact IntWalk.i64_in _ (by omega)
  have wv3' : wrap64 (mi * 60) = v3 := by rw [hv3]; exact IntWalk.wrap64_in _ (by omega)
  obtain ⟨v4, hv4⟩ : ∃ v, v2 + v3 = v := ⟨_, rfl⟩
  have wv4 : IntKind.i64.wrap (v2 + v3) = v4 := by rw [hv4]; exact IntWalk.i64_in _ (by omega)
  have wv4' : wrap64 (v2 + v3) = v4 := by rw [hv4]; exact IntWalk.wrap64_in _ (by omega)
  obtain ⟨v5, hv5⟩ : ∃ v, v4 + sc = v := ⟨_, rfl⟩
  have wv5 : IntKind.i64.wrap (v4 + sc) = v5 := by rw [hv5]; exact IntWalk.i64_in _ (by omega)
  have wv5' : wrap64 (v4 + sc) = v5 := by rw [hv5]; exact IntWalk.wrap64_in _ (by omega)
  obtain ⟨v6, hv6⟩ : ∃ v, IntKind.i64.wrap (v1 + v5) = v := ⟨_, rfl⟩
  have hv6' : wrap64 (v1 + v5) = v6 := by unfold wrap64; rw [← hv6, IntKind.wrap_i64]
  have a6 := hv6
  rw [IntKind.wrap_i64] at a6
  have e7 : (v6 + -9223372028741760000 + 9223372036854775808) % 18446744073709551616 - 9223372036854775808 = l := by
    clear hv1 hv1' wv2 wv2' wv3 wv3' wv4 wv4' wv5 wv5' hv6 hv6' wd wd2 wm1 wm2 wm3 wM wM2
    omega
  have wv7 : IntKind.i64.wrap (v6 + -9223372028741760000) = l := by rw [IntKind.wrap_i64]; exact e7
  have wv7' : wrap64 (v6 + -9223372028741760000) = l := by unfold wrap64; exact e7
  have w8 : IntKind.i64.wrap (l - off) = l - off := IntWalk.i64_in _ ⟨by clear wv7 wv7' e7 a6 a1 hv1 hv1' wv2 wv2' wv3 wv3' wv4 wv4' wv5 wv5' hv6 hv6' wd wd2 wm1 wm2 wm3 wM wM2; omega, by clear wv7 wv7' e7 a6 a1 hv1 hv1' wv2 wv2' wv3 wv3' wv4 wv4' wv5 wv5' hv6 hv6' wd wd2 wm1 wm2 wm3 wM wM2; omega⟩
  have w8' : wrap64 (l - off) = l - off := by unfold wrap64; rw [← IntKind.wrap_i64]; exact w8
  have w9 : IntKind.i32.wrap n = n := IntWalk.i32_in _ ⟨by clear w8 w8' wv7 wv7' e7 a6 a1 hv1 hv1' wv2 wv2' wv3 wv3' wv4 wv4' wv5 wv5' hv6 hv6' wd wd2 wm1 wm2 wm3 wM wM2; omega, by clear w8 w8' wv7 wv7' e7 a6 a1 hv1 hv1' wv2 wv2' wv3 wv3' wv4 wv4' wv5 wv5' hv6 hv6' wd wd2 wm1 wm2 wm3 wM wM2; omega⟩
  have w9' : wrap32 n = n := IntWalk.wrap32_in _ ⟨by clear w9 w8 w8' wv7 wv7' e7 a6 a1 hv1 hv1' wv2 wv2' wv3 wv3' wv4 wv4' wv5 wv5' hv6 hv6' wd wd2 wm1 wm2 wm3 wM wM2; omega, by clear w9 w8 w8' wv7 wv7' e7 a6 a1 hv1 hv1' wv2 wv2' wv3 wv3' wv4 wv4' wv5 wv5' hv6 hv6' wd wd2 wm1 wm2 wm3 wM wM2; omega⟩
  have u1 : ¬ l - off < -9223372036854775808 := by clear w9 w9' w8 w8' wv7 wv7' e7 a6 a1 hv1 hv1' wv2 wv2' wv3 wv3' wv4 wv4' wv5 wv5' hv6 hv6' wd wd2 wm1 wm2 wm3 wM wM2; omega
  have u2 : ¬ (9223372036854775807 : Int) ≤ l - off := by clear w9 w9' w8 w8' wv7 wv7' e7 a6 a1 hv1 hv1' wv2 wv2' wv3 wv3' wv4 wv4' wv5 wv5' hv6 hv6' wd wd2 wm1 wm2 wm3 wM wM2; omega
  have H0 := hid hn0
  have H1 := hid (show n < 1073741824 by clear w9 w9' w8 w8' wv7 wv7' e7 a6 a1 hv1 hv1' wv2 wv2' wv3 wv3' wv4 wv4' wv5 wv5' hv6 hv6' wd wd2 wm1 wm2 wm3 wM wM2; omega)
  rw [hE]
  clear e7 a6 a1 hv2 hv3 hv4 hv5 hE hE' hday hl l1 l2 o1 o2 hdb hN m1 m2 hM1 hM2 hY1 hY2 hD1 hD2 hh0 hh1 hm0 hm1 hs0 hs1 hn0 hn1 hmm wm1 hloc B0 hv1 hv6
  by_cases hz : off = 0
  · subst hz
    have w0 : l - 0 = l := Int.sub_zero l
    rw [w0] at CU
    clear w8 w8' u1 u2 w0
    go_enter Tryz.func121, Tryz.ntmps121
    go_upto_region 1 with fail
    generalize (w.alloc (.cells (tcells 0 0 none) 52)) = w1 at B R L ⊢
    go_wp2_with (first
      | (go_at_call_of 136 (Value.int .i64 12); refine (CN.out _).mono ?_; rintro e w' ⟨rfl, rfl⟩)
      | (go_at_call_of 136 (Value.int .i64 1000000000); refine (C1.out _).mono ?_; rintro e w' ⟨rfl, rfl⟩)
      | (go_at_call_of 136 (Value.int .i64 24); refine (C4.out _).mono ?_; rintro e w' ⟨rfl, rfl⟩)
      | (go_at_call_of 136 (Value.int .i64 sc); refine (C2.out _).mono ?_; rintro e w' ⟨rfl, rfl⟩)
      | (go_at_call_of 136 (Value.int .i64 h); refine (C3.out _).mono ?_; rintro e w' ⟨rfl, rfl⟩)
      | (go_at_call 137; refine (CA.out _).mono ?_; rintro e w' ⟨rfl, rfl⟩)
      | (go_at_call 138; refine (CL.out _ L.out).mono ?_; rintro e w2 ⟨⟨nm, b', rfl⟩, hb⟩; have B2 := hid (bt B.out hb); have R2 := hid (R.out.below hb); have L2 := hid (L.out.below hb); clear hb)
      | (go_at_call 52; refine (CU.out _).mono ?_; rintro e w3 ⟨rfl, hb⟩; have B3 := hid (bt B2.out hb); have R3 := hid (R2.out.below hb); have L3 := hid (L2.out.below hb); clear hb))
    have Q := hid (Blk.new w3 52 (tcells n E none))
    have R4 := hid (R3.out.alloc (.cells (tcells n E none) 52))
    have B4 := hid (B3.out.alloc B3.out.size (.cells (tcells n E none) 52))
    have L4 := hid (L3.out.below (show Below w3.heap.size w3 (w3.alloc (.cells (tcells n E none) 52)) by go_grown))
    have hsz := B3.out.size
    have hlt := R3.out.lt
    obtain ⟨k, hk⟩ : ∃ k, w3.heap.size = k := ⟨_, rfl⟩
    rw [hk] at Q hsz hlt
    generalize (w3.alloc (.cells (tcells n E none) 52)) = w4 at Q R4 B4 L4 ⊢
    go_at_call 53
    rw [hk]
    refine (setLoc_any k g n E none b w4 Q.out L4.out.cell H0.out H1.out).mono ?_
    rintro e' w' ⟨rfl, rfl⟩
    obtain ⟨p', hp'⟩ : ∃ p', locOf b g = p' := ⟨_, rfl⟩
    rw [hp']
    have Q2 := hid (show Blk _ _ _ (tcells n E p') from Q.out.set 2 (.pointer p'))
    have R5 := hid (R4.out.other (h := k) (by omega) 2 (.pointer p'))
    have B5 := hid (below_set B4.out hsz 2 (.pointer p'))
    generalize w4.setCell ⟨k, 2, none⟩ (.pointer p') = w5 at Q2 R5 B5 ⊢
    have k0 : w5.cell? ⟨k, 0, none⟩ = some (.int .u64 n) := Q2.out.cell 0
    have k1 : w5.cell? ⟨k, 1, none⟩ = some (.int .i64 E) := Q2.out.cell 1
    have k2 : w5.cell? ⟨k, 2, none⟩ = some (.pointer p') := Q2.out.cell 2
    have T0 := hid (there_blk R5.out 3 (Nat.le_refl 3))
    go_wp2_with (refine wpList_store_mid rfl 52 (.tmp 16) (.tmp 118) rfl w.heap.size 0 (tcells n E p') (by rfl) (by rfl) T0.out (by kernel_rfl) (by simp [Value.oneCell']) ?_; have R6 := hid (set3_blk R5.out rfl n E p'); have B6 := hid (set3_below B5.out (Nat.le_refl _) n E p'); generalize w5.setCells w.heap.size 0 (tcells n E p').toList = w6 at R6 B6 ⊢)
    exact bodyPost_ret (results_cell_row rfl _ _ w.heap.size 52 _ (0, 0) _ rfl R6.out Tryz.underlying52 rfl (by kernel_rfl)) rfl ⟨by rw [hp'], B6.out⟩
  · have hz' : (off != 0) = true := by simp [hz]
    go_enter Tryz.func121, Tryz.ntmps121
    go_upto_region 1 with fail
    generalize (w.alloc (.cells (tcells 0 0 none) 52)) = w1 at B R L ⊢
    go_wp2_with (first
      | (go_at_call_of 136 (Value.int .i64 12); refine (CN.out _).mono ?_; rintro e w' ⟨rfl, rfl⟩)
      | (go_at_call_of 136 (Value.int .i64 1000000000); refine (C1.out _).mono ?_; rintro e w' ⟨rfl, rfl⟩)
      | (go_at_call_of 136 (Value.int .i64 24); refine (C4.out _).mono ?_; rintro e w' ⟨rfl, rfl⟩)
      | (go_at_call_of 136 (Value.int .i64 sc); refine (C2.out _).mono ?_; rintro e w' ⟨rfl, rfl⟩)
      | (go_at_call_of 136 (Value.int .i64 h); refine (C3.out _).mono ?_; rintro e w' ⟨rfl, rfl⟩)
      | (go_at_call 137; refine (CA.out _).mono ?_; rintro e w' ⟨rfl, rfl⟩)
      | (go_at_call 138; refine (CL.out _ L.out).mono ?_; rintro e w2 ⟨⟨nm, b', rfl⟩, hb⟩; have B2 := hid (bt B.out hb); have R2 := hid (R.out.below hb); have L2 := hid (L.out.below hb); clear hb)
      | (go_at_call 52; refine (CU.out _).mono ?_; rintro e w3 ⟨rfl, hb⟩; have B3 := hid (bt B2.out hb); have R3 := hid (R2.out.below hb); have L3 := hid (L2.out.below hb); clear hb))
    have Q := hid (Blk.new w3 52 (tcells n E none))
    have R4 := hid (R3.out.alloc (.cells (tcells n E none) 52))
    have B4 := hid (B3.out.alloc B3.out.size (.cells (tcells n E none) 52))
    have L4 := hid (L3.out.below (show Below w3.heap.size w3 (w3.alloc (.cells (tcells n E none) 52)) by go_grown))
    have hsz := B3.out.size
    have hlt := R3.out.lt
    obtain ⟨k, hk⟩ : ∃ k, w3.heap.size = k := ⟨_, rfl⟩
    rw [hk] at Q hsz hlt
    generalize (w3.alloc (.cells (tcells n E none) 52)) = w4 at Q R4 B4 L4 ⊢
    go_at_call 53
    rw [hk]
    refine (setLoc_any k g n E none b w4 Q.out L4.out.cell H0.out H1.out).mono ?_
    rintro e' w' ⟨rfl, rfl⟩
    obtain ⟨p', hp'⟩ : ∃ p', locOf b g = p' := ⟨_, rfl⟩
    rw [hp']
    have Q2 := hid (show Blk _ _ _ (tcells n E p') from Q.out.set 2 (.pointer p'))
    have R5 := hid (R4.out.other (h := k) (by omega) 2 (.pointer p'))
    have B5 := hid (below_set B4.out hsz 2 (.pointer p'))
    generalize w4.setCell ⟨k, 2, none⟩ (.pointer p') = w5 at Q2 R5 B5 ⊢
    have k0 : w5.cell? ⟨k, 0, none⟩ = some (.int .u64 n) := Q2.out.cell 0
    have k1 : w5.cell? ⟨k, 1, none⟩ = some (.int .i64 E) := Q2.out.cell 1
    have k2 : w5.cell? ⟨k, 2, none⟩ = some (.pointer p') := Q2.out.cell 2
    have T0 := hid (there_blk R5.out 3 (Nat.le_refl 3))
    go_wp2_with (refine wpList_store_mid rfl 52 (.tmp 16) (.tmp 118) rfl w.heap.size 0 (tcells n E p') (by rfl) (by rfl) T0.out (by kernel_rfl) (by simp [Value.oneCell']) ?_; have R6 := hid (set3_blk R5.out rfl n E p'); have B6 := hid (set3_below B5.out (Nat.le_refl _) n E p'); generalize w5.setCells w.heap.size 0 (tcells n E p').toList = w6 at R6 B6 ⊢)
    exact bodyPost_ret (results_cell_row rfl _ _ w.heap.size 52 _ (0, 0) _ rfl R6.out Tryz.underlying52 rfl (by kernel_rfl)) rfl ⟨by rw [hp'], B6.out⟩
end Go.Proofs.YtjbafphoemibaaaGreatDoor
