/- impl.CronDayMatches at UTC's clocks; CronDayOf, cronWhole. Walked. (wip/gen/gen_dayu.py) -/
import Derived.Test.YtfmagbkcfeckhaaDayC
import Derived.Test.YtfmagbkcfeckhaaLawC
set_option linter.unusedVariables false
set_option linter.unusedSimpArgs false
namespace Go.Proofs.Ytfmagbkcfeckhaa
open Go.RowKit

set_option maxHeartbeats 3200000 in
set_option maxRecDepth 100000 in
theorem cdmB_any (dom dow s n : Int) (o d h x : Option Addr) (n0 c0 n1 c1 n2 c2 n3 c3 : Nat) (w : World) (O : Nat → Int) (D : Nat → Bool) (W I : Nat → Int) (A dd : Nat) (hz : ZIn w o d h x n0 n1 n2 n3 O D W I) (g1 : -62135596800 ≤ s) (g2 : s ≤ 258000000000) (g3 : 0 ≤ n) (g4 : n < 1000000000) (ha : s + scan O W I s n2 + 9223372028741760000 = (A : Int)) (ha2 : A < 18446744073709551616) (hd : A / 86400 = dd) :
    Calls Try.prog 20 #[.int .u64 dom, .int .u64 dow, .agg (icells s n), .agg (zcells o d h x n0 c0 n1 c1 n2 c2 n3 c3)] w fun e w' => e = .returned (.bool (dmB dom dow (mdN (ydN dd)) ((dd + 3) % 7))) ∧ Below w.heap.size w w' := by
  have s1 : (w.alloc (.cells (icells s n) 26)).heap.size = w.heap.size + 1 := by simp
  have B0 : Below w.heap.size w ((w.alloc (.cells (icells s n) 26)).alloc (.cells (zcells o d h x n0 c0 n1 c1 n2 c2 n3 c3) 34)) := by go_grown
  have B := hid B0
  have K5 := hid ((Blk.new w 26 (icells s n)).alloc (.cells (zcells o d h x n0 c0 n1 c1 n2 c2 n3 c3) 34))
  have K6 := hid (Blk.new (w.alloc (.cells (icells s n) 26)) 34 (zcells o d h x n0 c0 n1 c1 n2 c2 n3 c3))
  rw [s1] at K6
  have CL := hid (fun (w1 X : World) (h1 : Below w.heap.size w w1) (hb : Below w1.heap.size w1 X) => loc_any o d h x n0 c0 n1 c1 n2 c2 n3 c3 s X O D W I ((hz.below h1).below hb))
  obtain ⟨off, hoff⟩ : ∃ off, scan O W I s n2 = off := ⟨_, rfl⟩
  rw [hoff] at CL ha
  obtain ⟨e, he⟩ : ∃ e, s + 62135596800 = e := ⟨_, rfl⟩
  have CM := hid (fun g b X (hl : X.cell? ⟨g, 0, none⟩ = some (.bool b)) => moment_any s n e g b X hl g3 g4 he (by omega) (by omega))
  have CZ := hid (fun p X (hp : At X p s off) => zzDayMatches_any dom dow n e s off p A dd X g3 (by omega) (by omega) (by omega) (by omega) hp ha ha2 hd)
  obtain ⟨r, hr⟩ : ∃ r, dmB dom dow (mdN (ydN dd)) ((dd + 3) % 7) = r := ⟨_, rfl⟩
  rw [hr] at CZ ⊢
  clear B0 s1 hz hoff g1 g2 g3 g4 hr ha ha2 hd he
  go_enter Try.func20, Try.ntmps20
  go_upto_region 1 with fail
  generalize ((w.alloc (.cells (icells s n) 26)).alloc (.cells (zcells o d h x n0 c0 n1 c1 n2 c2 n3 c3) 34)) = w1 at B K5 K6 ⊢
  go_region_held3 (fun w' => w'.cell? ⟨w.heap.size, 0, none⟩ = some (.int .i64 s) ∧ w'.cell? ⟨w.heap.size, 1, none⟩ = some (.int .i64 n) ∧ w'.cell? ⟨w.heap.size + 1, 0, none⟩ = some (.slice o n0 c0) ∧ w'.cell? ⟨w.heap.size + 1, 1, none⟩ = some (.slice d n1 c1) ∧ w'.cell? ⟨w.heap.size + 1, 2, none⟩ = some (.slice h n2 c2) ∧ w'.cell? ⟨w.heap.size + 1, 3, none⟩ = some (.slice x n3 c3))
    ((refine keepC K5.out K6.out ?_; first | (go_grown; done) | (exact H4.out; done) | (exact H3.out; done) | (exact H2.out; done)))
    (first
      | (go_at_call 28; refine (CL.out w1 _ B.out (by go_grown)).mono ?_; rintro e' w2 ⟨⟨g, b, rfl, hl, hat⟩, hb⟩; have H2 := hid (bt (X := w1) (by go_grown) hb); have HL := hid hl; have HA := hid hat; clear hb hl hat)
      | (go_at_call 27; refine (CM.out g b _ (by first | exact HL.out | exact cellb HL.out (by go_grown))).mono ?_; rintro e' w3 ⟨rfl, hb⟩; have H3 := hid (bt (X := w1) (by first | exact H2.out | go_grown) hb); have HA3 := hid (HA.out.below hb); clear hb)
      | (go_at_call 36; refine (CZ.out _ _ HA3.out).mono ?_; rintro e' w4 ⟨rfl, hb⟩; have H4 := hid (bt (X := w1) H3.out hb); clear hb))
  all_goals
    go_wp2_with fail
    go_ret
    exact ⟨rfl, bt B.out H4.out⟩
theorem zin_utc (w : World) : ZIn w none none none none 0 0 0 0 (fun _ => 0) (fun _ => false) (fun _ => 0) (fun _ => 0) :=
  ⟨.inl ⟨rfl, rfl, rfl, rfl⟩, ⟨fun _ h => absurd h (Nat.not_lt_zero _), fun h => absurd h (Nat.lt_irrefl 0), fun _ h => absurd h (Nat.not_lt_zero _), fun _ h => absurd h (Nat.not_lt_zero _)⟩, ints_none _ _, fun i hi => absurd hi (Nat.not_lt_zero i), ints_none _ _, ints_none _ _⟩
theorem cdmU_any (dom dow s n : Int) (w : World) (g1 : -62135596800 ≤ s) (g2 : s ≤ 258000000000) (g3 : 0 ≤ n) (g4 : n < 1000000000) :
    Calls Try.prog 20 #[.int .u64 dom, .int .u64 dow, .agg (icells s n), .agg (zcells none none none none 0 0 0 0 0 0 0 0)] w fun e w' => e = .returned (.bool (dmB dom dow (mdN (ydN (absD (s / 86400)))) (wdN (s / 86400)))) ∧ Below w.heap.size w w' := by
  obtain ⟨A, hA⟩ : ∃ A : Nat, s + 9223372028741760000 = A := Int.eq_ofNat_of_zero_le (by omega)
  have hd : A / 86400 = absD (s / 86400) := by unfold absD; omega
  exact cdmB_any dom dow s n none none none none 0 0 0 0 0 0 0 0 w (fun _ => 0) (fun _ => false) (fun _ => 0) (fun _ => 0) A (absD (s / 86400)) (zin_utc w) g1 g2 g3 g4 (by show s + 0 + 9223372028741760000 = _; rw [Int.add_zero]; exact hA) (by omega) hd
theorem dayOf_any (s : Int) (w : World) (h1 : -1000000000000 ≤ s) (h2 : s ≤ 1000000000000) : Calls Try.prog 18 #[.int .i64 s] w fun e w' => e = .returned (.int .i64 (s / 86400)) ∧ Below w.heap.size w w' := by
  have C := hid (fun X => fd_86400 s X (by omega) (by omega))
  obtain ⟨q, hq⟩ : ∃ q, s / 86400 = q := ⟨_, rfl⟩
  rw [hq] at C ⊢
  clear hq
  go_enter Try.func18, Try.ntmps18
  go_wp2_with (go_at_call 32; refine (C.out _).mono ?_; rintro e w' ⟨rfl, rfl⟩)
  go_ret
  exact ⟨rfl, Below.refl _ _⟩
theorem whole_any (s : Int) (w : World) : Calls Try.prog 19 #[.int .i64 s] w fun e w' => e = .returned (.agg (icells s 0)) ∧ Below w.heap.size w w' := by
  have B := hid (show Below w.heap.size w (w.alloc (.cells (icells s 0) 26)) by go_grown)
  have R := hid (Blk.new w 26 (icells s 0))
  go_enter Try.func19, Try.ntmps19
  go_wp2_with fail
  exact bodyPost_ret (results_cell_row rfl _ _ w.heap.size 26 _ (0, 0) _ rfl R.out Try.underlying26 rfl (by kernel_rfl)) rfl ⟨rfl, B.out⟩
theorem field_month (a0 a1 a2 a3 a4 a5 a6 a7 : Int) (X : World) : (Instr.field 38 (.agg (vcells8 a0 a1 a2 a3 a4 a5 a6 a7)) 1).run Try.prog X = .ok (.int .i64 a1) X := by kernel_rfl

/-- Which days between the second behind an instant and its answer are let in. -/
def dayIn (S : Sets) (d : Int) : Bool := monOK S d && dayOK S d
theorem ans_days {S : Sets} {s x : Int} (h1 : -62135596800 ≤ s) (h2 : s ≤ 253402300799) (h : IsAns S s 0 x true) : x ≤ 256000000000 ∧ x ≤ s + 221356800 ∧ dayIn S (x / 86400) = true ∧ ∀ d, (s + 1) / 86400 < d → d < x / 86400 → dayIn S d = false := by
  rcases h with ⟨_, l, rfl, hf⟩ | ⟨h, _⟩
  · rw [Int.sub_zero]
    obtain ⟨f1, f2, f3, ⟨g1, g2, g3, g4, g5⟩, f5⟩ := hf
    have y := year_10000 (day := (s + 1) / 86400) (by omega) (by omega)
    have hd := year_3000000 (day := l / 86400) (by omega) (by omega) (Int.le_trans f3 (by omega))
    have hlt : l ≤ s + 221356800 := by
      have a1 := abs_date (l / 86400) (by omega) (by omega)
      have a2 := abs_date ((s + 1) / 86400) (by omega) (by omega)
      have b1 := (dayOf_year a1.2).2
      have b2 := (dayOf_year a2.2).1
      have e1 : l / 86400 = dayOf (yP (l / 86400)) (mP (l / 86400)) (dP (l / 86400)) := a1.1
      have e2 : (s + 1) / 86400 = dayOf (yP ((s + 1) / 86400)) (mP ((s + 1) / 86400)) (dP ((s + 1) / 86400)) := a2.1
      rw [← e1] at b1
      rw [← e2] at b2
      clear a1 a2 e1 e2 g1 g2 g3 g4 g5 f5 hd
      generalize yP (l / 86400) = Y at b1 f3
      generalize yP ((s + 1) / 86400) = Z at b2 f3 y
      have b3 := ys_mono (show Y + 1 ≤ Z + 6 by omega)
      have b4 : ys (Z + 6) ≤ ys Z + 2196 := by unfold ys; omega
      omega
    refine ⟨by omega, hlt, ?_, fun d d1 d2 => ?_⟩
    · unfold dayIn
      rw [g1, g2]
      rfl
    · cases hc : dayIn S d
      · rfl
      · exfalso
        unfold dayIn at hc
        rw [Bool.and_eq_true] at hc
        obtain ⟨t, ht⟩ : ∃ t, l % 86400 = t := ⟨_, rfl⟩
        have q1 : (86400 * d + t) / 86400 = d := by omega
        have q2 : (86400 * d + t) % 86400 = l % 86400 := by omega
        have q3 : (86400 * d + t) % 3600 = l % 3600 := by omega
        have q4 : (86400 * d + t) % 60 = l % 60 := by omega
        refine f5 (86400 * d + t) (by omega) (by omega) ⟨by rw [q1]; exact hc.1, by rw [q1]; exact hc.2, ?_, ?_, ?_⟩
        · unfold hourOK at g3 ⊢
          rw [q2]
          exact g3
        · unfold minOK at g4 ⊢
          rw [q3]
          exact g4
        · unfold secOK at g5 ⊢
          rw [q4]
          exact g5
  · cases h
end Go.Proofs.Ytfmagbkcfeckhaa
