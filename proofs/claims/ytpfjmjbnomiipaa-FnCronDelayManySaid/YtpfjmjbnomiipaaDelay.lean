/- The next moment of a schedule of a constant delay of whole seconds: its nanoseconds are 0, its seconds the delay's more. Walked. -/
import Derived.Test.YtpfjmjbnomiipaaMoment
import Derived.Test.YtpfjmjbnomiipaaEvery
set_option linter.unusedVariables false
set_option linter.unusedSimpArgs false
namespace Go.Proofs.Ytpfjmjbnomiipaa
open Go.RowKit

theorem wall_clear (n : Int) (h0 : 0 ≤ n) (h1 : n < 1073741824) : bits .andNot .u64 n 1073741823 = 0 := by
  obtain ⟨k, rfl⟩ := Int.eq_ofNat_of_zero_le h0
  have := u64_andNot_nat k 1073741823 (by omega) (by omega)
  rw [show (1073741823 : Int) = ((1073741823 : Nat) : Int) from rfl, this]
  have e : k &&& (18446744073709551615 - 1073741823) = 0 := by
    apply Nat.eq_of_testBit_eq
    intro i
    rw [Nat.testBit_and, Nat.zero_testBit]
    rcases Nat.lt_or_ge i 30 with h | h
    · have : ∀ i, i < 30 → (18446744073709551615 - 1073741823 : Nat).testBit i = false := by decide
      rw [this i h, Bool.and_false]
    · have : k.testBit i = false := Nat.testBit_lt_two_pow (Nat.lt_of_lt_of_le (show k < 2 ^ 30 by omega) (Nat.pow_le_pow_right (by omega) h))
      rw [this, Bool.false_and]
  rw [e]; rfl

theorem addSec_any (g : Nat) (e d f : Int) (p : Option Addr) (w : World) (hg : Blk w g 45 (tcells 0 e p)) (hd : 1 ≤ d) (h0 : 0 ≤ e) (hf : e + d = f) (h1 : f ≤ 9223372036854775807) : Calls Try.prog 50 #[.pointer (some ⟨g, 0, none⟩), .int .i64 d] w fun e' w' => e' = .returned (.tuple #[]) ∧ w' = w.setCell ⟨g, 1, none⟩ (.int .i64 f) := by
  have c0 : w.cell? ⟨g, 0, none⟩ = some (.int .u64 0) := hg.cell 0
  have c1 : w.cell? ⟨g, 1, none⟩ = some (.int .i64 e) := hg.cell 1
  have f1 : w.frozen? ⟨g, 1, none⟩ = false := hg.frozen 1
  have m := wall_mono 0 (by omega) (by omega)
  have e1 : IntKind.i64.wrap (e + d) = f := by rw [hf]; exact IntWalk.i64_in _ (by omega)
  have g1 : e < f := by omega
  have g2 : 0 < d := by omega
  clear hg hd h0 hf h1
  go_enter Try.func50, Try.ntmps50
  go_wp2
  go_end0
  exact ⟨rfl, rfl⟩

set_option maxHeartbeats 1600000 in
set_option maxRecDepth 100000 in
theorem add_any (n e D k f : Int) (p : Option Addr) (w : World) (h0 : 0 ≤ n) (h1 : n < 1000000000) (hk : 1 ≤ k) (hk2 : k ≤ 4000000) (hD : k * 1000000000 - n = D) (he : 0 ≤ e) (hf : e + k = f) (h2 : f ≤ 9223372036854775807) : Calls Try.prog 49 #[.agg (tcells n e p), .int .i64 D] w fun e' w' => e' = .returned (.agg (tcells 0 f p)) ∧ Below w.heap.size w w' := by
  have B := hid (show Below w.heap.size w ((w.alloc (.cells (tcells n e p) 45)).alloc (.cells (tcells 0 0 none) 45)) by go_grown)
  have Q := hid ((Blk.new w 45 (tcells n e p)).alloc (.cells (tcells 0 0 none) 45))
  have R := hid (Blk.new (w.alloc (.cells (tcells n e p) 45)) 45 (tcells 0 0 none))
  have hsz : (w.alloc (.cells (tcells n e p) 45)).heap.size = w.heap.size + 1 := by simp
  rw [hsz] at R
  have CA := hid (fun g w hg => addSec_any g e k f p w hg hk he hf h2)
  have CN := hid (fun g w hg => nsec_any g n e p w hg h0 h1)
  have m1 := wall_clear n h0 (by omega)
  have m2 : bits .or .u64 0 0 = 0 := by decide
  have m3 := wall_mono 0 (by omega) (by omega)
  have d0 : 0 ≤ D := by omega
  have e5 : wrap64 k = k := by unfold wrap64; omega
  by_cases hn : n = 0
  · subst hn
    have q1 : D.tdiv 1000000000 = k := by rw [Int.tdiv_eq_ediv_of_nonneg d0]; omega
    have q2 : D.tmod 1000000000 = 0 := by rw [Int.tmod_eq_emod_of_nonneg d0]; omega
    have q1' : D / 1000000000 = k := by omega
    have q2' : D % 1000000000 = 0 := by omega
    have H0 := hid h0
    have H1 := hid h1
    clear hD he hf h2 h0 h1 d0 hk hk2
    go_enter Try.func49, Try.ntmps49
    go_wp2_with fail
    generalize ((w.alloc (.cells (tcells 0 e p) 45)).alloc (.cells (tcells 0 0 none) 45)) = w1 at Q R B ⊢
    have c0 : w1.cell? ⟨w.heap.size, 0, none⟩ = some (.int .u64 0) := Q.out.cell 0
    have f0 : w1.frozen? ⟨w.heap.size, 0, none⟩ = false := Q.out.frozen 0
    go_wp2_with (go_at_call 29; refine (CN.out _ _ Q.out).mono ?_; rintro e' w' ⟨rfl, rfl⟩)
    go_at_call 50
    have Q2 := hid (show Blk _ _ _ (tcells 0 e p) from Q.out.set 0 (.int .u64 0))
    have R2 := hid (R.out.other (h := w.heap.size) (by omega) 0 (.int .u64 0))
    have B2 := hid (below_set B.out (Nat.le_refl _) 0 (.int .u64 0))
    clear Q R B c0 f0
    generalize w1.setCell ⟨w.heap.size, 0, none⟩ (.int .u64 0) = w2 at Q2 R2 B2 ⊢
    refine (CA.out _ _ Q2.out).mono ?_
    rintro e' w' ⟨rfl, rfl⟩
    have Q3 := hid (show Blk _ _ _ (tcells 0 f p) from Q2.out.set 1 (.int .i64 f))
    have R3 := hid (R2.out.other (h := w.heap.size) (by omega) 1 (.int .i64 f))
    have B3 := hid (below_set B2.out (Nat.le_refl _) 1 (.int .i64 f))
    clear Q2 R2 B2
    generalize w2.setCell ⟨w.heap.size, 1, none⟩ (.int .i64 f) = w3 at Q3 R3 B3 ⊢
    have k0 : w3.cell? ⟨w.heap.size, 0, none⟩ = some (.int .u64 0) := Q3.out.cell 0
    have k1 : w3.cell? ⟨w.heap.size, 1, none⟩ = some (.int .i64 f) := Q3.out.cell 1
    have k2 : w3.cell? ⟨w.heap.size, 2, none⟩ = some (.pointer p) := Q3.out.cell 2
    have t0 : w3.there (w.heap.size + 1) 0 3 := there_blk R3.out 3 (Nat.le_refl 3)
    have T0 := hid t0
    clear t0
    go_wp2_with (refine wpList_store_mid rfl 45 (.tmp 4) (.tmp 65) rfl (w.heap.size + 1) 0 (tcells 0 f p) (by rfl) (by rfl) T0.out (by kernel_rfl) (by simp [Value.oneCell']) ?_; have R4 := hid (set3_blk R3.out rfl 0 f p); have B4 := hid (set3_below B3.out (Nat.le_succ _) 0 f p); generalize w3.setCells (w.heap.size + 1) 0 (tcells 0 f p).toList = w4 at R4 B4 ⊢)
    exact bodyPost_ret (results_cell_row rfl _ _ (w.heap.size + 1) 45 _ (0, 0) _ rfl R4.out Try.underlying45 rfl (by kernel_rfl)) rfl ⟨rfl, B4.out⟩
  · obtain ⟨r, hr⟩ : ∃ r, 1000000000 - n = r := ⟨_, rfl⟩
    obtain ⟨j, hj⟩ : ∃ j, k - 1 = j := ⟨_, rfl⟩
    have q1 : D.tdiv 1000000000 = j := by rw [Int.tdiv_eq_ediv_of_nonneg d0]; omega
    have q2 : D.tmod 1000000000 = r := by rw [Int.tmod_eq_emod_of_nonneg d0]; omega
    have q1' : D / 1000000000 = j := by omega
    have q2' : D % 1000000000 = r := by omega
    have e1 : IntKind.i32.wrap r = r := by rw [IntKind.wrap]; simp [IntKind.bits, IntKind.signed]; omega
    have e2 : n + r = 1000000000 := by omega
    have e3 : IntKind.i64.wrap (j + 1) = k := by rw [IntWalk.i64_in _ (by omega)]; omega
    have e4 : IntKind.i32.wrap 1000000000 = 1000000000 := by decide
    have e6 : wrap64 j = j := by unfold wrap64; omega
    have e7 : wrap64 (j + 1) = k := by unfold wrap64; omega
    have H0 := hid h0
    have H1 := hid h1
    clear hD he hf h2 h0 h1 d0 hk hk2 hr hj hn
    go_enter Try.func49, Try.ntmps49
    go_wp2_with fail
    generalize ((w.alloc (.cells (tcells n e p) 45)).alloc (.cells (tcells 0 0 none) 45)) = w1 at Q R B ⊢
    have c0 : w1.cell? ⟨w.heap.size, 0, none⟩ = some (.int .u64 n) := Q.out.cell 0
    have f0 : w1.frozen? ⟨w.heap.size, 0, none⟩ = false := Q.out.frozen 0
    go_wp2_with (go_at_call 29; refine (CN.out _ _ Q.out).mono ?_; rintro e' w' ⟨rfl, rfl⟩)
    go_at_call 50
    have Q2 := hid (show Blk _ _ _ (tcells 0 e p) from Q.out.set 0 (.int .u64 0))
    have R2 := hid (R.out.other (h := w.heap.size) (by omega) 0 (.int .u64 0))
    have B2 := hid (below_set B.out (Nat.le_refl _) 0 (.int .u64 0))
    clear Q R B c0 f0
    generalize w1.setCell ⟨w.heap.size, 0, none⟩ (.int .u64 0) = w2 at Q2 R2 B2 ⊢
    refine (CA.out _ _ Q2.out).mono ?_
    rintro e' w' ⟨rfl, rfl⟩
    have Q3 := hid (show Blk _ _ _ (tcells 0 f p) from Q2.out.set 1 (.int .i64 f))
    have R3 := hid (R2.out.other (h := w.heap.size) (by omega) 1 (.int .i64 f))
    have B3 := hid (below_set B2.out (Nat.le_refl _) 1 (.int .i64 f))
    clear Q2 R2 B2
    generalize w2.setCell ⟨w.heap.size, 1, none⟩ (.int .i64 f) = w3 at Q3 R3 B3 ⊢
    have k0 : w3.cell? ⟨w.heap.size, 0, none⟩ = some (.int .u64 0) := Q3.out.cell 0
    have k1 : w3.cell? ⟨w.heap.size, 1, none⟩ = some (.int .i64 f) := Q3.out.cell 1
    have k2 : w3.cell? ⟨w.heap.size, 2, none⟩ = some (.pointer p) := Q3.out.cell 2
    have t0 : w3.there (w.heap.size + 1) 0 3 := there_blk R3.out 3 (Nat.le_refl 3)
    have T0 := hid t0
    clear t0
    go_wp2_with (refine wpList_store_mid rfl 45 (.tmp 4) (.tmp 65) rfl (w.heap.size + 1) 0 (tcells 0 f p) (by rfl) (by rfl) T0.out (by kernel_rfl) (by simp [Value.oneCell']) ?_; have R4 := hid (set3_blk R3.out rfl 0 f p); have B4 := hid (set3_below B3.out (Nat.le_succ _) 0 f p); generalize w3.setCells (w.heap.size + 1) 0 (tcells 0 f p).toList = w4 at R4 B4 ⊢)
    exact bodyPost_ret (results_cell_row rfl _ _ (w.heap.size + 1) 45 _ (0, 0) _ rfl R4.out Try.underlying45 rfl (by kernel_rfl)) rfl ⟨rfl, B4.out⟩

theorem delay_next (x y : Value) (w : World) : (invoke (.fn (.method "Next") #[]) #[.iface 53 x, y]).run Try.prog w = .ok (.enter 48 #[x, y]) w := by kernel_rfl

set_option maxHeartbeats 1600000 in
set_option maxRecDepth 100000 in
theorem next_any (n e d k f : Int) (p : Option Addr) (w : World) (h0 : 0 ≤ n) (h1 : n < 1000000000) (hk : 1 ≤ k) (hk2 : k ≤ 4000000) (hd : k * 1000000000 = d) (he : 0 ≤ e) (hf : e + k = f) (h2 : f ≤ 9223372036854775807) : Calls Try.prog 48 #[.agg #[.int .i64 d], .agg (tcells n e p)] w fun e' w' => e' = .returned (.agg (tcells 0 f p)) ∧ Below w.heap.size w w' := by
  have s1 : ((w.alloc (.cells #[.int .i64 d] 53))).heap.size = w.heap.size + 1 := by simp
  have s2 : ((w.alloc (.cells #[.int .i64 d] 53)).alloc (.cells (tcells n e p) 45)).heap.size = w.heap.size + 2 := by simp
  have B := hid (show Below w.heap.size w (((w.alloc (.cells #[.int .i64 d] 53)).alloc (.cells (tcells n e p) 45)).alloc (.cells (tcells 0 0 none) 45)) by go_grown)
  have D := hid (((Blk.new w 53 #[.int .i64 d]).alloc (.cells (tcells n e p) 45)).alloc (.cells (tcells 0 0 none) 45))
  have Q := hid ((Blk.new (w.alloc (.cells #[.int .i64 d] 53)) 45 (tcells n e p)).alloc (.cells (tcells 0 0 none) 45))
  have R := hid (Blk.new ((w.alloc (.cells #[.int .i64 d] 53)).alloc (.cells (tcells n e p) 45)) 45 (tcells 0 0 none))
  rw [s1] at Q
  rw [s2] at R
  have CN := hid (fun w => nano_any n e p w h0 h1)
  have CA := hid (fun w => add_any n e (d - n) k f p w h0 h1 hk hk2 (by omega) he hf h2)
  have e1 : IntKind.i64.wrap (n * 1) = n := by rw [Int.mul_one]; exact IntWalk.i64_in _ (by omega)
  have e2 : IntKind.i64.wrap n = n := IntWalk.i64_in _ (by omega)
  have e3 : IntKind.i64.wrap (d - n) = d - n := IntWalk.i64_in _ (by omega)
  obtain ⟨D', hD'⟩ : ∃ D', d - n = D' := ⟨_, rfl⟩
  rw [hD'] at CA e3
  clear s1 s2 h0 h1 hk hk2 hd he hf h2
  go_enter Try.func48, Try.ntmps48
  go_wp2_with fail
  generalize (((w.alloc (.cells #[.int .i64 d] 53)).alloc (.cells (tcells n e p) 45)).alloc (.cells (tcells 0 0 none) 45)) = w1 at D Q R B ⊢
  have d0 : ∀ x os, (Go.Sort.grow (redrawn w1 x) os).cell? ⟨w.heap.size, 0, none⟩ = some (.int .i64 d) := fun x os => (blk_gr D.out x os).cell 0
  have k0 : ∀ d os, (Go.Sort.grow (redrawn w1 d) os).cell? ⟨w.heap.size + 1, 0, none⟩ = some (.int .u64 n) := fun d os => (blk_gr Q.out d os).cell 0
  have k1 : ∀ d os, (Go.Sort.grow (redrawn w1 d) os).cell? ⟨w.heap.size + 1, 1, none⟩ = some (.int .i64 e) := fun d os => (blk_gr Q.out d os).cell 1
  have k2 : ∀ d os, (Go.Sort.grow (redrawn w1 d) os).cell? ⟨w.heap.size + 1, 2, none⟩ = some (.pointer p) := fun d os => (blk_gr Q.out d os).cell 2
  have C1 := hid (fun d os => Calls.regrown_of (CN.out (Go.Sort.grow (redrawn w1 d) os)))
  have C2 := hid (fun d os => Calls.regrown_of (CA.out (Go.Sort.grow (redrawn w1 d) os)))
  refine wp_region_tail_below 8 (by kernel_rfl) (by kernel_rfl) ?_
  show wpQuiet _ _ _ _ [_, _, _, _, _, _, _, _] _
  repeat (go_big_quiet_step ((first | (go_at_call 26; exact C1.out _ _) | (go_at_call 49; exact C2.out _ _) | fail)))
  refine wpQuiet_nil ?_
  intro _ hw'
  obtain ⟨⟨dq, osq⟩, hw''⟩ := hw'
  subst hw''
  have R2 := hid (blk_gr R.out dq osq)
  have B2 := hid (bt B.out (below_regrown w1 dq osq))
  generalize Go.Sort.grow (redrawn w1 dq) osq = w2 at R2 B2 ⊢
  show wpList _ _ _ [_] _ _
  have t0 : w2.there (w.heap.size + 2) 0 3 := there_blk R2.out 3 (Nat.le_refl 3)
  have R3 := hid (set3_blk R2.out rfl 0 f p)
  have B3 := hid (set3_below B2.out (Nat.le_add_right _ 2) 0 f p)
  refine wpList_store_mid rfl 45 (.tmp 4) (.tmp 12) rfl (w.heap.size + 2) 0 (tcells 0 f p) (by rfl) (by rfl) t0 (by kernel_rfl) (by simp [Value.oneCell']) ?_
  generalize w2.setCells (w.heap.size + 2) 0 (tcells 0 f p).toList = w3 at R3 B3 ⊢
  refine wpList_nil ?_
  go_wp2_with fail
  exact bodyPost_ret (results_cell_row rfl _ _ (w.heap.size + 2) 45 _ (0, 0) _ rfl R3.out Try.underlying45 rfl (by kernel_rfl)) rfl ⟨rfl, B3.out⟩

theorem schedule_any (d : Int) (w : World) : Calls Try.prog 11 #[.agg #[.bool true, .int .i64 d, .int .u64 0, .int .u64 0, .int .u64 0, .int .u64 0, .int .u64 0, .int .u64 0], .pointer none] w fun e' w' => e' = .returned (.iface 53 (.agg #[.int .i64 d])) ∧ Below w.heap.size w w' := by
  go_enter Try.func11, Try.ntmps11
  go_wp2
  go_ret
  exact ⟨rfl, by go_grown⟩
end Go.Proofs.Ytpfjmjbnomiipaa
