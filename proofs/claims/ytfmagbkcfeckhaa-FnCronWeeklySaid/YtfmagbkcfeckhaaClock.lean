/- The reference's clocks: the offset of a zone at a second, and the date that a zone's clocks show. Walked. -/
import Derived.Test.YtfmagbkcfeckhaaDate
import Derived.Test.YtfmagbkcfeckhaaZoneC
import Derived.Deep.RegionHeld3
set_option linter.unusedVariables false
set_option linter.unusedSimpArgs false
namespace Go.Proofs.Ytfmagbkcfeckhaa
open Go.RowKit

theorem mod7_any (a x : Int) (w : World) (h1 : -100000000 ≤ a) (h2 : a ≤ 100000000) (hx : a - 7 * (a / 7) = x) : Calls Try.prog 58 #[.int .i64 a, .int .i64 7] w fun e w' => e = .returned (.int .i64 x) ∧ w = w' := by
  have C := hid (fd_7 a w (by omega) (by omega))
  obtain ⟨q, hq⟩ : ∃ q, a / 7 = q := ⟨_, rfl⟩
  rw [hq] at C hx
  have q1 : -100000000 ≤ q := by omega
  have q2 : q ≤ 100000000 := by omega
  have e1 : wrap64 x = x := by unfold wrap64; omega
  clear hq
  go_enter Try.func58, Try.ntmps58
  go_wp2_with (go_at_call 32; refine C.out.mono ?_; rintro e w' ⟨rfl, rfl⟩)
  go_ret
  exact ⟨rfl, rfl⟩

theorem weekday_any (day : Int) (w : World) (h1 : -720000 ≤ day) (h2 : day ≤ 3000000) : Calls Try.prog 44 #[.int .i64 day] w fun e w' => e = .returned (.int .i64 (day + 4 - 7 * ((day + 4) / 7))) ∧ w = w' := by
  obtain ⟨x, hx⟩ : ∃ x, day + 4 - 7 * ((day + 4) / 7) = x := ⟨_, rfl⟩
  rw [hx]
  have C := hid (mod7_any (day + 4) x w (by omega) (by omega) hx)
  clear hx
  go_enter Try.func44, Try.ntmps44
  go_wp2_with (go_at_call 58; refine C.out.mono ?_; rintro e w' ⟨rfl, rfl⟩)
  go_ret
  exact ⟨rfl, rfl⟩

/-- A date and time of day of the thin package. -/
abbrev vcells8 (Y M D h m s n d : Int) : Array Value := #[.int .i64 Y, .int .i64 M, .int .i64 D, .int .i64 h, .int .i64 m, .int .i64 s, .int .i64 n, .int .i64 d]
theorem set_b8 {w : World} {g : Nat} {t : TypeId} {x0 x1 x2 x3 x4 x5 x6 x7 : Value} (h : Blk w g t #[x0, x1, x2, x3, x4, x5, x6, x7]) (Y M D h' m s n d : Int) : Blk (w.setCells g 0 (vcells8 Y M D h' m s n d).toList) g t (vcells8 Y M D h' m s n d) := by
  have hk := (((((((h.set 0 (.int .i64 Y)).set 1 (.int .i64 M)).set 2 (.int .i64 D)).set 3 (.int .i64 h')).set 4 (.int .i64 m)).set 5 (.int .i64 s)).set 6 (.int .i64 n)).set 7 (.int .i64 d)
  simp only [List.setIfInBounds_toArray, List.set_cons_zero, List.set_cons_succ] at hk
  exact hk
theorem below_b8 {B : Nat} {w w1 : World} (h : Below B w w1) {g : Nat} (hg : B ≤ g) (Y M D h' m s n d : Int) : Below B w (w1.setCells g 0 (vcells8 Y M D h' m s n d).toList) :=
  below_set (below_set (below_set (below_set (below_set (below_set (below_set (below_set h hg 0 _) hg 1 _) hg 2 _) hg 3 _) hg 4 _) hg 5 _) hg 6 _) hg 7 _

set_option maxHeartbeats 3200000 in
set_option maxRecDepth 100000 in
theorem clock_any (l n : Int) (w : World) (h1 : -62135769600 ≤ l) (h2 : l ≤ 253402473599) : Calls Try.prog 29 #[.int .i64 l, .int .i64 n] w fun e w' => (∃ Y M D h m s d, e = .returned (.agg (vcells8 Y M D h m s n d)) ∧ dateIs (l / 86400) Y M D) ∧ Below w.heap.size w w' := by
  have CF := hid (fun w => fd_86400 l w (by omega) (by omega))
  obtain ⟨day, hday⟩ : ∃ day, l / 86400 = day := ⟨_, rfl⟩
  rw [hday] at CF ⊢
  have d1 : -720000 ≤ day := by omega
  have d2 : day ≤ 3000000 := by omega
  obtain ⟨r, hr⟩ : ∃ r, l - 86400 * day = r := ⟨_, rfl⟩
  have r1 : 0 ≤ r := by omega
  have r2 : r < 86400 := by omega
  have e1 : wrap64 r = r := by unfold wrap64; omega
  have CD := hid (fun w => date_any day w d1 d2)
  have CW := hid (fun w => weekday_any day w d1 d2)
  obtain ⟨wd, hwd⟩ : ∃ wd, day + 4 - 7 * ((day + 4) / 7) = wd := ⟨_, rfl⟩
  rw [hwd] at CW
  have B := hid (show Below w.heap.size w (w.alloc (.cells (vcells8 0 0 0 0 0 0 0 0) 38)) by go_grown)
  have R := hid (Blk.new w 38 (vcells8 0 0 0 0 0 0 0 0))
  obtain ⟨h, hh⟩ : ∃ h, r / 3600 = h := ⟨_, rfl⟩
  obtain ⟨q, hq⟩ : ∃ q, r / 60 = q := ⟨_, rfl⟩
  obtain ⟨m, hm⟩ : ∃ m, q % 60 = m := ⟨_, rfl⟩
  obtain ⟨s, hs⟩ : ∃ s, r % 60 = s := ⟨_, rfl⟩
  have t1 : r.tdiv 3600 = h := by rw [Int.tdiv_eq_ediv_of_nonneg r1]; exact hh
  have t2 : r.tdiv 60 = q := by rw [Int.tdiv_eq_ediv_of_nonneg r1]; exact hq
  have q0 : 0 ≤ q := by omega
  have q9 : q ≤ 86400 := by omega
  have h9 : 0 ≤ h := by omega
  have h8 : h ≤ 86400 := by omega
  have t3 : q.tmod 60 = m := by rw [Int.tmod_eq_emod_of_nonneg q0]; exact hm
  have t4 : r.tmod 60 = s := by rw [Int.tmod_eq_emod_of_nonneg r1]; exact hs
  have v1 : wrap64 h = h := by unfold wrap64; omega
  have v2 : wrap64 q = q := by unfold wrap64; omega
  have v3 : IntKind.i64.wrap h = h := IntWalk.i64_in _ (by omega)
  have v4 : IntKind.i64.wrap q = q := IntWalk.i64_in _ (by omega)
  clear hwd hday
  go_enter Try.func29, Try.ntmps29
  go_wp2_with (go_at_call 32; refine (CF.out _).mono ?_; rintro e w' ⟨rfl, rfl⟩)
  generalize (w.alloc (.cells (vcells8 0 0 0 0 0 0 0 0) 38)) = w1 at B R ⊢
  go_at_call 31
  refine (CD.out _).mono ?_
  rintro e w2 ⟨⟨Y, M, D, rfl, hdt⟩, hb⟩
  have HDT := hid hdt
  have B2 := hid (bt B.out hb)
  have R2 := hid (R.out.below hb)
  clear hb hdt B R
  go_wp2_with fail
  have Q := hid (Blk.new w2 72 #[.int .i64 Y, .int .i64 M, .int .i64 D])
  have R3 := hid (R2.out.alloc (.cells #[.int .i64 Y, .int .i64 M, .int .i64 D] 72))
  have B3 := hid (B2.out.alloc B2.out.size (.cells #[.int .i64 Y, .int .i64 M, .int .i64 D] 72))
  generalize (w2.alloc (.cells #[.int .i64 Y, .int .i64 M, .int .i64 D] 72)) = w3 at Q R3 B3 ⊢
  have k0 : ∀ d os, (Go.Sort.grow (redrawn w3 d) os).cell? ⟨w2.heap.size, 0, none⟩ = some (.int .i64 Y) := fun d os => (blk_gr Q.out d os).cell 0
  have k1 : ∀ d os, (Go.Sort.grow (redrawn w3 d) os).cell? ⟨w2.heap.size, 1, none⟩ = some (.int .i64 M) := fun d os => (blk_gr Q.out d os).cell 1
  have k2 : ∀ d os, (Go.Sort.grow (redrawn w3 d) os).cell? ⟨w2.heap.size, 2, none⟩ = some (.int .i64 D) := fun d os => (blk_gr Q.out d os).cell 2
  have C1 := hid (fun d os => Calls.regrown_of ((CW.out (Go.Sort.grow (redrawn w3 d) os)).mono fun e w' (h : _ ∧ _) => ⟨h.1, h.2 ▸ Below.refl _ _⟩))
  refine wp_region_tail_below 17 (by kernel_rfl) (by kernel_rfl) ?_
  show wpQuiet _ _ _ _ [_, _, _, _, _, _, _, _, _, _, _, _, _, _, _, _, _] _
  repeat (go_big_quiet_step ((first | (go_at_call 44; exact C1.out _ _) | fail)))
  refine wpQuiet_nil ?_
  intro _ hw'
  obtain ⟨⟨dq, osq⟩, hw''⟩ := hw'
  subst hw''
  have R4 := hid (blk_gr R3.out dq osq)
  have B4 := hid (bt B3.out (below_regrown w3 dq osq))
  clear k0 k1 k2 C1
  generalize Go.Sort.grow (redrawn w3 dq) osq = w4 at R4 B4 ⊢
  show wpList _ _ _ [_] _ _
  have t0 : w4.there w.heap.size 0 8 := there_b R4.out 8 (Nat.le_refl 8)
  have R5 := hid (set_b8 R4.out Y M D h m s n wd)
  have B5 := hid (below_b8 B4.out (Nat.le_refl _) Y M D h m s n wd)
  refine wpList_store_mid rfl 38 (.tmp 4) (.tmp 32) rfl w.heap.size 0 (vcells8 Y M D h m s n wd) (by rfl) (by rfl) t0 (by kernel_rfl) (by simp [Value.oneCell']) ?_
  generalize w4.setCells w.heap.size 0 (vcells8 Y M D h m s n wd).toList = w5 at R5 B5 ⊢
  refine wpList_nil ?_
  go_wp2_with fail
  exact bodyPost_ret (results_cell_row rfl _ _ w.heap.size 38 _ (0, 0) _ rfl R5.out Try.underlying38 rfl (by kernel_rfl)) rfl ⟨⟨Y, M, D, h, m, s, wd, rfl, HDT.out⟩, B5.out⟩

/-- The offset in use at a second: that of the last of the first k transitions at or before it. -/
def scan (O W I : Nat → Int) (sec : Int) : Nat → Int
  | 0 => 0
  | k + 1 => if W k ≤ sec then O (I k).toNat else scan O W I sec k
theorem scan_bound {O W I : Nat → Int} {n0 n2 : Nat} {sec : Int} (h : goodC n0 n2 O W I) : ∀ k, k ≤ n2 → -86400 ≤ scan O W I sec k ∧ scan O W I sec k ≤ 86400
  | 0, _ => by simp [scan]
  | k + 1, hk => by
    have ih := scan_bound (sec := sec) h k (by omega)
    unfold scan
    split
    · have hi := h.2.2.1 k (by omega)
      exact h.1 _ (by omega)
    · exact ih

set_option maxHeartbeats 3200000 in
set_option maxRecDepth 100000 in
theorem offset_any (o d h x : Option Addr) (n0 c0 n1 c1 n2 c2 n3 c3 : Nat) (sec : Int) (w : World) (O W I : Nat → Int) (hn2 : n2 ≤ 4096) (hn0 : n0 ≤ 64) (h3 : n3 = n2) (hC : goodC n0 n2 O W I) (hO : Ints w o n0 O) (hH : Ints w h n2 W) (hX : Ints w x n3 I) :
    Calls Try.prog 30 #[.agg (zcells o d h x n0 c0 n1 c1 n2 c2 n3 c3), .int .i64 sec] w fun e w' => e = .returned (.int .i64 (scan O W I sec n2)) ∧ Below w.heap.size w w' := by
  subst h3
  have B := hid (show Below w.heap.size w (w.alloc (.cells (zcells o d h x n0 c0 n1 c1 n3 c2 n3 c3) 34)) by go_grown)
  have R := hid (Blk.new w 34 (zcells o d h x n0 c0 n1 c1 n3 c2 n3 c3))
  have HO := hid (hO.below B.out)
  have HH := hid (hH.below B.out)
  have HX := hid (hX.below B.out)
  have HC := hid hC
  clear hO hH hX hC
  go_enter Try.func30, Try.ntmps30
  go_upto_region 2 with fail
  generalize (w.alloc (.cells (zcells o d h x n0 c0 n1 c1 n3 c2 n3 c3) 34)) = w1 at B R HO HH HX ⊢
  have k2 : w1.cell? ⟨w.heap.size, 2, none⟩ = some (.slice h n3 c2) := R.out.cell 2
  go_wp2_with fail
  clear k2
  go_loopw [5, 11] (fun sv iv wr => ∃ k : Nat, k ≤ n3 ∧ iv = .int .i64 k ∧ sv = .int .i64 (scan O W I sec k) ∧ Below w1.heap.size w1 wr) (fun _ iv _ => n3 - (intOf iv).toNat)
  case atStart => exact ⟨0, Nat.zero_le _, rfl, rfl, Below.refl _ _⟩
  case round =>
    obtain ⟨k, hk, rfl, rfl, hb⟩ := hrel
    have HB := hid hb
    clear hb
    by_cases hlt : k < n3
    · obtain ⟨ha, rfl, hy⟩ := (HH.out.below HB.out) k hlt
      obtain ⟨v, hv⟩ : ∃ v, W k = v := ⟨_, rfl⟩
      rw [hv] at hy
      have HV := hid hv
      clear hv
      have u0 : (0 : Int) ≤ (k : Int) := by omega
      have u1 : (k : Int) < (n3 : Int) := by omega
      have u2 : ¬ (n3 : Int) ≤ (k : Int) := by omega
      have hw : IntKind.i64.wrap ((k : Int) + 1) = (k : Int) + 1 := IntWalk.i64_in _ (by omega)
      obtain ⟨sc, hsc⟩ : ∃ sc, scan O W I sec k = sc := ⟨_, rfl⟩
      rw [hsc]
      have HSC := hid hsc
      clear hsc
      by_cases hc : v ≤ sec
      · have hc' : decide (v ≤ sec) = true := decide_eq_true hc
        obtain ⟨i1, i2⟩ := HC.out.2.2.1 k hlt
        obtain ⟨j, hj⟩ := Int.eq_ofNat_of_zero_le i1
        have j1 : j < n0 := by omega
        obtain ⟨xa, hxa, hyx⟩ := (HX.out.below HB.out) k hlt
        subst hxa
        rw [hj] at hyx
        obtain ⟨oa, hoa, hyo⟩ := (HO.out.below HB.out) j j1
        subst hoa
        obtain ⟨ov, hov⟩ : ∃ ov, O j = ov := ⟨_, rfl⟩
        rw [hov] at hyo
        have HJ := hid hj
        have HOV := hid hov
        clear i1 i2 hj hov
        have j2 : (j : Int) < (n0 : Int) := by omega
        have j3 : ¬ (n0 : Int) ≤ (j : Int) := by omega
        have j4 : (0 : Int) ≤ (j : Int) := by omega
        have KK := hid (R.out.below HB.out)
        have r0 : ∀ d os, (Go.Sort.grow (redrawn wr d) os).cell? ⟨w.heap.size, 0, none⟩ = some (.slice (some oa) n0 c0) := fun d os => (blk_gr KK.out d os).cell 0
        have r3 : ∀ d os, (Go.Sort.grow (redrawn wr d) os).cell? ⟨w.heap.size, 3, none⟩ = some (.slice (some xa) n3 c3) := fun d os => (blk_gr KK.out d os).cell 3
        have rx : ∀ d os, (Go.Sort.grow (redrawn wr d) os).cell? (xa.add k) = some (.int .i64 (j : Int)) := fun d os => cell_gr hyx d os
        have ro : ∀ d os, (Go.Sort.grow (redrawn wr d) os).cell? (oa.add j) = some (.int .i64 ov) := fun d os => cell_gr hyo d os
        have rx0 : k = 0 → ∀ d os, (Go.Sort.grow (redrawn wr d) os).cell? xa = some (.int .i64 (j : Int)) := fun e d os => by have := rx d os; rw [e, Addr.add_zero'] at this; exact this
        have ro0 : j = 0 → ∀ d os, (Go.Sort.grow (redrawn wr d) os).cell? oa = some (.int .i64 ov) := fun e d os => by have := ro d os; rw [e, Addr.add_zero'] at this; exact this
        clear hyx hyo rx0 ro0
        go_wp2_with fail
        refine wp_region_quiet_below (by kernel_rfl) (by kernel_rfl) ?_
        repeat (go_big_quiet_step (fail))
        refine wpQuiet_nil ?_
        intro _ hw'
        obtain ⟨⟨dq, osq⟩, hw''⟩ := hw'
        subst hw''
        have HB2 := hid (bt HB.out (below_regrown wr dq osq))
        clear r0 r3 rx ro
        generalize Go.Sort.grow (redrawn wr dq) osq = w3 at HB2 ⊢
        go_wp2_with fail
        go_roundw
        case rel => exact ⟨k + 1, by omega, by go_num, by rw [scan, HV.out, if_pos hc, HJ.out]; simp [HOV.out], HB2.out⟩
        case measure => simp [intOf]; omega
      · have hc' : decide (v ≤ sec) = false := decide_eq_false hc
        go_wp2_with fail
        go_roundw
        case rel => exact ⟨k + 1, by omega, by go_num, by rw [scan, HV.out, if_neg hc, HSC.out], HB.out⟩
        case measure => simp [intOf]; omega
    · obtain rfl : n3 = k := by omega
      have u1 : ¬ (n3 : Int) < (n3 : Int) := by omega
      go_wp2_with fail
      go_ret
      exact ⟨rfl, bt B.out HB.out⟩
end Go.Proofs.Ytfmagbkcfeckhaa
