/- Time.Add of whole seconds, and of what is missing to the next whole second. Walked. -/
import Derived.Test.YtjbafphoemibaaaGreatDoorDateN
set_option linter.unusedVariables false
set_option linter.unusedSimpArgs false
namespace Go.Proofs.YtjbafphoemibaaaGreatDoor
open Go.RowKit

theorem wall_high (n : Int) (h0 : 0 ≤ n) (h1 : n < 1073741824) : bits .andNot .u64 n 1073741823 = 0 := by
  obtain ⟨k, rfl⟩ := Int.eq_ofNat_of_zero_le h0
  have := Go.u64_andNot_nat k 1073741823 (by omega) (by omega)
  rw [show (1073741823 : Int) = ((1073741823 : Nat) : Int) from rfl, this]
  have e : k &&& (18446744073709551615 - 1073741823) = 0 := by
    apply Nat.eq_of_testBit_eq
    intro i
    rw [Nat.testBit_and, Nat.zero_testBit]
    by_cases h : i < 30
    · have : (18446744073709551615 - 1073741823 : Nat).testBit i = false := by
        have : ∀ i, i < 30 → (18446744073709551615 - 1073741823 : Nat).testBit i = false := by decide
        exact this i h
      rw [this, Bool.and_false]
    · have : k.testBit i = false := Nat.testBit_lt_two_pow (Nat.lt_of_lt_of_le (show k < 2 ^ 30 by omega) (Nat.pow_le_pow_right (by decide) (by omega)))
      rw [this, Bool.false_and]
  rw [e]; rfl

theorem addSec_any (g : Nat) (n e d : Int) (p : Option Addr) (w : World) (hg : Blk w g 52 (tcells n e p)) (h0 : 0 ≤ n) (h1 : n < 1073741824) (he1 : -1000000000000 ≤ e) (he2 : e ≤ 1000000000000) (hd1 : -1000000000 ≤ d) (hd2 : d ≤ 1000000000) :
    Calls Tryz.prog 132 #[.pointer (some ⟨g, 0, none⟩), .int .i64 d] w fun e' w' => e' = .returned (.tuple #[]) ∧ w' = w.setCell ⟨g, 1, none⟩ (.int .i64 (e + d)) := by
  have hm := wall_mono n h0 h1
  have c0 : w.cell? ⟨g, 0, none⟩ = some (.int .u64 n) := hg.cell 0
  have c1 : w.cell? ⟨g, 1, none⟩ = some (.int .i64 e) := hg.cell 1
  have f1 : w.frozen? ⟨g, 1, none⟩ = false := hg.frozen 1
  have e1 : IntKind.i64.wrap (e + d) = e + d := IntWalk.i64_in _ (by omega)
  have e2 : wrap64 (e + d) = e + d := IntWalk.wrap64_in _ (by omega)
  by_cases h : 0 < d
  · have u1 : e < e + d := by omega
    have u2 : decide (e < e + d) = true := decide_eq_true u1
    have u3 : decide (0 < d) = true := decide_eq_true h
    clear h0 h1 he1 he2 hd1 hd2 hg
    go_enter Tryz.func132, Tryz.ntmps132
    go_wp2
    go_end0
    exact ⟨rfl, rfl⟩
  · have u1 : ¬ e < e + d := by omega
    have u2 : decide (e < e + d) = false := decide_eq_false u1
    have u3 : decide (0 < d) = false := decide_eq_false h
    clear h0 h1 he1 he2 hd1 hd2 hg
    go_enter Tryz.func132, Tryz.ntmps132
    go_wp2
    go_end0
    exact ⟨rfl, rfl⟩

set_option maxHeartbeats 1600000 in
set_option maxRecDepth 100000 in
theorem add_any (e D k f : Int) (p : Option Addr) (w : World) (hD : k * 1000000000 = D) (he1 : -500000000000 ≤ e) (he2 : e ≤ 500000000000) (hk1 : -1000000 ≤ k) (hk2 : k ≤ 1000000) (hf : e + k = f) :
    Calls Tryz.prog 118 #[.agg (tcells 0 e p), .int .i64 D] w fun e' w' => e' = .returned (.agg (tcells 0 f p)) ∧ Below w.heap.size w w' := by
  have B := hid (show Below w.heap.size w ((w.alloc (.cells (tcells 0 e p) 52)).alloc (.cells (tcells 0 0 none) 52)) by go_grown)
  have Q := hid ((Blk.new w 52 (tcells 0 e p)).alloc (.cells (tcells 0 0 none) 52))
  have R := hid (Blk.new (w.alloc (.cells (tcells 0 e p) 52)) 52 (tcells 0 0 none))
  have hsz : (w.alloc (.cells (tcells 0 e p) 52)).heap.size = w.heap.size + 1 := by simp
  rw [hsz] at R
  have CA := hid (fun g w hg => addSec_any g 0 e k p w hg (by omega) (by omega) (by omega) (by omega) (by omega) (by omega))
  rw [hf] at CA
  have CN := hid (fun g w hg => nsec_any g 0 e p w hg (by omega) (by omega))
  have m1 := wall_high 0 (by omega) (by omega)
  have m2 : bits .or .u64 0 0 = 0 := by decide
  have m3 := wall_mono 0 (by omega) (by omega)
  have e5 : wrap64 k = k := by unfold wrap64; omega
  have e6 : IntKind.i64.wrap k = k := IntWalk.i64_in _ (by omega)
  have q1 : D.tdiv 1000000000 = k := by rw [← hD]; exact Int.mul_tdiv_cancel k (by decide)
  have q2 : D.tmod 1000000000 = 0 := by rw [← hD]; exact Int.mul_tmod_left k 1000000000
  clear hD he1 he2 hk1 hk2 hsz
  go_enter Tryz.func118, Tryz.ntmps118
  go_wp2_with fail
  generalize ((w.alloc (.cells (tcells 0 e p) 52)).alloc (.cells (tcells 0 0 none) 52)) = w1 at Q R B ⊢
  have c0 : w1.cell? ⟨w.heap.size, 0, none⟩ = some (.int .u64 0) := Q.out.cell 0
  have f0 : w1.frozen? ⟨w.heap.size, 0, none⟩ = false := Q.out.frozen 0
  go_wp2_with (go_at_call 72; refine (CN.out _ _ Q.out).mono ?_; rintro e' w' ⟨rfl, rfl⟩)
  go_at_call 132
  have Q2 := hid (show Blk _ _ _ (tcells 0 e p) from Q.out.set 0 (.int .u64 0))
  have R2 := hid (R.out.other (h := w.heap.size) (by omega) 0 (.int .u64 0))
  have B2 := hid (below_set B.out (Nat.le_refl _) 0 (.int .u64 0))
  clear Q R B c0 f0
  generalize w1.setCell ⟨w.heap.size, 0, none⟩ (.int .u64 0) = w2 at Q2 R2 B2 ⊢
  refine (CA.out _ _ Q2.out).mono ?_
  rintro e' w' ⟨rfl, rfl⟩
  have Q3 := hid (show Blk _ _ _ (tcells 0 f p) from Q2.out.set 1 (.int .i64 f))
  have R3 := hid (R2.out.other (h := w.heap.size) (by omega) 1 (.int .i64 f))
  have B3 := hid (below_set B2.out (Nat.le_refl _) 1 (.int .i64 f))
  clear Q2 R2 B2
  generalize w2.setCell ⟨w.heap.size, 1, none⟩ (.int .i64 f) = w3 at Q3 R3 B3 ⊢
  have k0 : w3.cell? ⟨w.heap.size, 0, none⟩ = some (.int .u64 0) := Q3.out.cell 0
  have k1 : w3.cell? ⟨w.heap.size, 1, none⟩ = some (.int .i64 f) := Q3.out.cell 1
  have k2 : w3.cell? ⟨w.heap.size, 2, none⟩ = some (.pointer p) := Q3.out.cell 2
  have t0 : w3.there (w.heap.size + 1) 0 3 := there_blk R3.out 3 (Nat.le_refl 3)
  have T0 := hid t0
  clear t0
  go_wp2_with (refine wpList_store_mid rfl 52 (.tmp 4) (.tmp 65) rfl (w.heap.size + 1) 0 (tcells 0 f p) (by rfl) (by rfl) T0.out (by kernel_rfl) (by simp [Value.oneCell']) ?_; have R4 := hid (set3_blk R3.out rfl 0 f p); have B4 := hid (set3_below B3.out (Nat.le_succ _) 0 f p); generalize w3.setCells (w.heap.size + 1) 0 (tcells 0 f p).toList = w4 at R4 B4 ⊢)
  exact bodyPost_ret (results_cell_row rfl _ _ (w.heap.size + 1) 52 _ (0, 0) _ rfl R4.out Tryz.underlying52 rfl (by kernel_rfl)) rfl ⟨rfl, B4.out⟩

set_option maxHeartbeats 1600000 in
set_option maxRecDepth 100000 in
theorem add_rest (n e D f : Int) (p : Option Addr) (w : World) (h0 : 0 < n) (h1 : n < 1000000000) (hD : 1000000000 - n = D) (he1 : -500000000000 ≤ e) (he2 : e ≤ 500000000000) (hf : e + 1 = f) :
    Calls Tryz.prog 118 #[.agg (tcells n e p), .int .i64 D] w fun e' w' => e' = .returned (.agg (tcells 0 f p)) ∧ Below w.heap.size w w' := by
  have B := hid (show Below w.heap.size w ((w.alloc (.cells (tcells n e p) 52)).alloc (.cells (tcells 0 0 none) 52)) by go_grown)
  have Q := hid ((Blk.new w 52 (tcells n e p)).alloc (.cells (tcells 0 0 none) 52))
  have R := hid (Blk.new (w.alloc (.cells (tcells n e p) 52)) 52 (tcells 0 0 none))
  have hsz : (w.alloc (.cells (tcells n e p) 52)).heap.size = w.heap.size + 1 := by simp
  rw [hsz] at R
  obtain ⟨k, hk⟩ : ∃ k : Int, 1 = k := ⟨_, rfl⟩
  have CA := hid (fun g w hg => addSec_any g 0 e 1 p w hg (by omega) (by omega) (by omega) (by omega) (by omega) (by omega))
  rw [hf] at CA
  have CN := hid (fun g w hg => nsec_any g n e p w hg (by omega) h1)
  have m1 := wall_high n (by omega) (by omega)
  have m2 : bits .or .u64 0 0 = 0 := by decide
  have m3 := wall_mono 0 (by omega) (by omega)
  have q1 : D.tdiv 1000000000 = 0 := by rw [Int.tdiv_eq_ediv_of_nonneg (by omega)]; omega
  have q2 : D.tmod 1000000000 = D := by rw [Int.tmod_eq_emod_of_nonneg (by omega)]; omega
  have e1 : IntKind.i32.wrap D = D := IntWalk.i32_in _ (by omega)
  have e1' : wrap32 D = D := IntWalk.wrap32_in _ (by omega)
  have e2 : n + D = 1000000000 := by omega
  clear hD he1 he2 h0 h1 hsz hk
  go_enter Tryz.func118, Tryz.ntmps118
  go_wp2_with fail
  generalize ((w.alloc (.cells (tcells n e p) 52)).alloc (.cells (tcells 0 0 none) 52)) = w1 at Q R B ⊢
  have c0 : w1.cell? ⟨w.heap.size, 0, none⟩ = some (.int .u64 n) := Q.out.cell 0
  have f0 : w1.frozen? ⟨w.heap.size, 0, none⟩ = false := Q.out.frozen 0
  go_wp2_with (go_at_call 72; refine (CN.out _ _ Q.out).mono ?_; rintro e' w' ⟨rfl, rfl⟩)
  go_at_call 132
  have Q2 := hid (show Blk _ _ _ (tcells 0 e p) from Q.out.set 0 (.int .u64 0))
  have R2 := hid (R.out.other (h := w.heap.size) (by omega) 0 (.int .u64 0))
  have B2 := hid (below_set B.out (Nat.le_refl _) 0 (.int .u64 0))
  clear Q R B c0 f0
  generalize w1.setCell ⟨w.heap.size, 0, none⟩ (.int .u64 0) = w2 at Q2 R2 B2 ⊢
  refine (CA.out _ _ Q2.out).mono ?_
  rintro e' w' ⟨rfl, rfl⟩
  have Q3 := hid (show Blk _ _ _ (tcells 0 f p) from Q2.out.set 1 (.int .i64 f))
  have R3 := hid (R2.out.other (h := w.heap.size) (by omega) 1 (.int .i64 f))
  have B3 := hid (below_set B2.out (Nat.le_refl _) 1 (.int .i64 f))
  clear Q2 R2 B2
  generalize w2.setCell ⟨w.heap.size, 1, none⟩ (.int .i64 f) = w3 at Q3 R3 B3 ⊢
  have k0 : w3.cell? ⟨w.heap.size, 0, none⟩ = some (.int .u64 0) := Q3.out.cell 0
  have k1 : w3.cell? ⟨w.heap.size, 1, none⟩ = some (.int .i64 f) := Q3.out.cell 1
  have k2 : w3.cell? ⟨w.heap.size, 2, none⟩ = some (.pointer p) := Q3.out.cell 2
  have t0 : w3.there (w.heap.size + 1) 0 3 := there_blk R3.out 3 (Nat.le_refl 3)
  have T0 := hid t0
  clear t0
  go_wp2_with (refine wpList_store_mid rfl 52 (.tmp 4) (.tmp 65) rfl (w.heap.size + 1) 0 (tcells 0 f p) (by rfl) (by rfl) T0.out (by kernel_rfl) (by simp [Value.oneCell']) ?_; have R4 := hid (set3_blk R3.out rfl 0 f p); have B4 := hid (set3_below B3.out (Nat.le_succ _) 0 f p); generalize w3.setCells (w.heap.size + 1) 0 (tcells 0 f p).toList = w4 at R4 B4 ⊢)
  exact bodyPost_ret (results_cell_row rfl _ _ (w.heap.size + 1) 52 _ (0, 0) _ rfl R4.out Tryz.underlying52 rfl (by kernel_rfl)) rfl ⟨rfl, B4.out⟩
end Go.Proofs.YtjbafphoemibaaaGreatDoor
