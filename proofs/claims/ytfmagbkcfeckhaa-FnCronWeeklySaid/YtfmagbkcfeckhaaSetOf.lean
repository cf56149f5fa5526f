/- The reference's set of a field: CronSetOf. Walked. -/
import Derived.Test.YtfmagbkcfeckhaaSet
import Derived.Test.YtfmagbkcfeckhaaQTail
import Derived.Test.YtfmagbkcfeckhaaDayM
import Derived.Deep.DeepCutAuto
set_option linter.unusedVariables false
set_option linter.unusedSimpArgs false
namespace Go.Proofs.Ytfmagbkcfeckhaa
open Go.RowKit

def kLo (k : Nat) : Nat := if k = 3 ∨ k = 4 then 1 else 0
def kHi (k : Nat) : Nat := if k = 2 then 23 else if k = 3 then 31 else if k = 4 then 12 else if k = 5 then 6 else 59
theorem kLo_le (k : Nat) : kLo k ≤ 1 := by unfold kLo; split <;> omega
theorem kHi_le (k : Nat) : 6 ≤ kHi k ∧ kHi k ≤ 59 := by unfold kHi; repeat' split
                                                        all_goals omega
/-- The set of field k that the bits m mean: a star, then the values 0 to 62. -/
def setB (k : Nat) (m : Int) : Nat → Bool
  | 0 => starB m
  | v + 1 => decide (kLo k ≤ v ∧ v ≤ kHi k) && hasB m v
/-- The same when the values below n have been laid. -/
def partB (k : Nat) (m : Int) (n : Nat) : Nat → Bool
  | 0 => false
  | v + 1 => decide (kLo k ≤ v ∧ v < n) && hasB m v

theorem hasB_bit (m : Int) (k : Nat) (h0 : 0 ≤ m) (h1 : m < 18446744073709551616) (hk : k < 64) : hasB m k = m.toNat.testBit k := by
  obtain ⟨n, rfl⟩ : ∃ n : Nat, m = n := ⟨m.toNat, by omega⟩
  have h2 : 2 ^ k < 2 ^ 64 := Nat.pow_lt_pow_right (by decide) hk
  unfold hasB
  rw [u64_and_nat _ _ (by omega) (by omega), Int.toNat_natCast]
  cases g : n.testBit k
  · have e : 2 ^ k &&& n = 0 := Nat.eq_of_testBit_eq fun i => by
      rw [Nat.testBit_and, Nat.testBit_two_pow, Nat.zero_testBit]
      by_cases e : k = i
      · subst e
        simp [g]
      · simp [e]
    rw [e]
    rfl
  · have e : 2 ^ k &&& n ≠ 0 := fun e => by
      have := congrArg (fun x => x.testBit k) e
      simp [Nat.testBit_and, Nat.testBit_two_pow, g] at this
    exact decide_eq_true (by omega)
theorem shr_bit (m : Int) (k : Nat) (h0 : 0 ≤ m) (h1 : m < 18446744073709551616) (hk : k < 64) : (bits .and .u64 (m / 2 ^ k) 1 == 1) = hasB m k := by
  rw [hasB_bit m k h0 h1 hk]
  obtain ⟨n, rfl⟩ : ∃ n : Nat, m = n := ⟨m.toNat, by omega⟩
  have e : (n : Int) / 2 ^ k = ((n / 2 ^ k : Nat) : Int) := by simp
  have hle : n / 2 ^ k ≤ n := Nat.div_le_self _ _
  have h2 : bits .and .u64 ((n / 2 ^ k : Nat) : Int) 1 = ((n / 2 ^ k &&& 1 : Nat) : Int) := u64_and_nat _ 1 (by omega) (by omega)
  rw [e, h2, Nat.and_one_is_mod, Int.toNat_natCast, Nat.testBit_eq_decide_div_mod_eq]
  by_cases g : n / 2 ^ k % 2 = 1
  · rw [g]
    rfl
  · have g2 : n / 2 ^ k % 2 = 0 := by omega
    rw [g2]
    rfl
theorem star_ne (m : Int) (h0 : 0 ≤ m) (h1 : m < 18446744073709551616) : (bits .and .u64 m 9223372036854775808 != 0) = starB m := by
  have y0 : 0 ≤ bits .and .u64 m 9223372036854775808 := by
    rw [Go.u64_and _ _ h0 h1 (by omega) (by omega)]
    exact Int.natCast_nonneg _
  unfold starB
  generalize bits .and .u64 m 9223372036854775808 = y at y0 ⊢
  by_cases g : 0 < y
  · rw [decide_eq_true g]
    exact bne_iff_ne.2 (by omega)
  · obtain rfl : y = 0 := by omega
    rfl

theorem low_any (k : Nat) (hk : k ≤ 5) (w : World) : Calls Try.prog 50 #[.int .i64 k] w fun e w' => e = .returned (.int .i64 (kLo k : Nat)) ∧ w' = w := by
  rcases (by omega : k = 0 ∨ k = 1 ∨ k = 2 ∨ k = 3 ∨ k = 4 ∨ k = 5) with rfl | rfl | rfl | rfl | rfl | rfl <;>
  · go_enter Try.func50, Try.ntmps50
    go_wp2_with fail
    go_ret
    try exact ⟨rfl, rfl⟩
theorem high_any (k : Nat) (hk : k ≤ 5) (w : World) : Calls Try.prog 51 #[.int .i64 k] w fun e w' => e = .returned (.int .i64 (kHi k : Nat)) ∧ w' = w := by
  rcases (by omega : k = 0 ∨ k = 1 ∨ k = 2 ∨ k = 3 ∨ k = 4 ∨ k = 5) with rfl | rfl | rfl | rfl | rfl | rfl <;>
  · go_enter Try.func51, Try.ntmps51
    go_wp2_with fail
    go_ret
    try exact ⟨rfl, rfl⟩

theorem z64 : (List.toArray (.bool false :: .bool false :: .bool false :: .bool false :: .bool false :: .bool false :: .bool false :: .bool false :: .bool false :: .bool false :: .bool false :: .bool false :: .bool false :: .bool false :: .bool false :: .bool false :: .bool false :: .bool false :: .bool false :: .bool false :: .bool false :: .bool false :: .bool false :: .bool false :: .bool false :: .bool false :: .bool false :: .bool false :: .bool false :: .bool false :: .bool false :: .bool false :: .bool false :: .bool false :: .bool false :: .bool false :: .bool false :: .bool false :: .bool false :: .bool false :: .bool false :: .bool false :: .bool false :: .bool false :: .bool false :: .bool false :: .bool false :: .bool false :: .bool false :: .bool false :: .bool false :: .bool false :: .bool false :: .bool false :: .bool false :: .bool false :: .bool false :: .bool false :: .bool false :: .bool false :: .bool false :: .bool false :: .bool false :: .bool false :: []) : Array Value) = bcells 64 (fun _ => false) := rfl
theorem step_b (k : Nat) (m : Int) (v : Nat) (h1 : kLo k ≤ v) (b : Bool) (hb : b = hasB m v) : (bcells 64 (partB k m v)).setIfInBounds (1 + v) (.bool b) = bcells 64 (partB k m (v + 1)) ∨ 63 ≤ v := by
  by_cases h : v < 63
  · left
    rw [bcells_set (by omega)]
    apply bcells_ext
    rintro (_ | i) hi
    · simp only [put1, partB, if_neg (show ¬ 0 = 1 + v by omega)]
    · by_cases e : i = v
      · subst e
        simp [put1, partB, show i + 1 = 1 + i by omega, h1, hb]
      · simp [put1, partB, show ¬ i + 1 = 1 + v by omega, show (i < v + 1) = (i < v) from propext (by omega)]
  · right
    omega
theorem part_start (k : Nat) (m : Int) (n : Nat) (h : n ≤ kLo k) : bcells 64 (fun _ => false) = bcells 64 (partB k m n) := by
  apply bcells_ext
  rintro (_ | i) hi
  · rfl
  · simp only [partB, Bool.and_eq_false_imp, false_eq_decide_iff, Bool.false_eq]
    intro hh
    simp at hh
    omega

set_option maxHeartbeats 3200000 in
set_option maxRecDepth 100000 in
theorem setOf_any (k : Nat) (hk : k ≤ 5) (m : Int) (h0 : 0 ≤ m) (h1 : m < 18446744073709551616) (w : World) : Calls Try.prog 35 #[.int .i64 k, .int .u64 m] w fun e w' => e = .returned (.agg (bcells 64 (setB k m))) ∧ Below w.heap.size w w' := by
  have CL := hid (fun w => low_any k hk w)
  have CH := hid (fun w => high_any k hk w)
  have hlo := kLo_le k
  have hhi := kHi_le k
  obtain ⟨lo, hlo'⟩ : ∃ lo, kLo k = lo := ⟨_, rfl⟩
  obtain ⟨hi, hhi'⟩ : ∃ hi, kHi k = hi := ⟨_, rfl⟩
  rw [hlo'] at CL hlo
  rw [hhi'] at CH hhi
  have HLO := hid hlo'
  have LK := hid (show kLo k ≤ lo by omega)
  have HHI := hid hhi'
  clear hlo' hhi'
  have B := hid (show Below w.heap.size w ((w.alloc (.cells (List.toArray (.bool false :: .bool false :: .bool false :: .bool false :: .bool false :: .bool false :: .bool false :: .bool false :: .bool false :: .bool false :: .bool false :: .bool false :: .bool false :: .bool false :: .bool false :: .bool false :: .bool false :: .bool false :: .bool false :: .bool false :: .bool false :: .bool false :: .bool false :: .bool false :: .bool false :: .bool false :: .bool false :: .bool false :: .bool false :: .bool false :: .bool false :: .bool false :: .bool false :: .bool false :: .bool false :: .bool false :: .bool false :: .bool false :: .bool false :: .bool false :: .bool false :: .bool false :: .bool false :: .bool false :: .bool false :: .bool false :: .bool false :: .bool false :: .bool false :: .bool false :: .bool false :: .bool false :: .bool false :: .bool false :: .bool false :: .bool false :: .bool false :: .bool false :: .bool false :: .bool false :: .bool false :: .bool false :: .bool false :: .bool false :: []) : Array Value) 45)).alloc (.cells (List.toArray (.bool false :: .bool false :: .bool false :: .bool false :: .bool false :: .bool false :: .bool false :: .bool false :: .bool false :: .bool false :: .bool false :: .bool false :: .bool false :: .bool false :: .bool false :: .bool false :: .bool false :: .bool false :: .bool false :: .bool false :: .bool false :: .bool false :: .bool false :: .bool false :: .bool false :: .bool false :: .bool false :: .bool false :: .bool false :: .bool false :: .bool false :: .bool false :: .bool false :: .bool false :: .bool false :: .bool false :: .bool false :: .bool false :: .bool false :: .bool false :: .bool false :: .bool false :: .bool false :: .bool false :: .bool false :: .bool false :: .bool false :: .bool false :: .bool false :: .bool false :: .bool false :: .bool false :: .bool false :: .bool false :: .bool false :: .bool false :: .bool false :: .bool false :: .bool false :: .bool false :: .bool false :: .bool false :: .bool false :: .bool false :: []) : Array Value) 45)) by go_grown)
  have R := hid ((Blk.new w 45 (List.toArray (.bool false :: .bool false :: .bool false :: .bool false :: .bool false :: .bool false :: .bool false :: .bool false :: .bool false :: .bool false :: .bool false :: .bool false :: .bool false :: .bool false :: .bool false :: .bool false :: .bool false :: .bool false :: .bool false :: .bool false :: .bool false :: .bool false :: .bool false :: .bool false :: .bool false :: .bool false :: .bool false :: .bool false :: .bool false :: .bool false :: .bool false :: .bool false :: .bool false :: .bool false :: .bool false :: .bool false :: .bool false :: .bool false :: .bool false :: .bool false :: .bool false :: .bool false :: .bool false :: .bool false :: .bool false :: .bool false :: .bool false :: .bool false :: .bool false :: .bool false :: .bool false :: .bool false :: .bool false :: .bool false :: .bool false :: .bool false :: .bool false :: .bool false :: .bool false :: .bool false :: .bool false :: .bool false :: .bool false :: .bool false :: []) : Array Value)).alloc (.cells (List.toArray (.bool false :: .bool false :: .bool false :: .bool false :: .bool false :: .bool false :: .bool false :: .bool false :: .bool false :: .bool false :: .bool false :: .bool false :: .bool false :: .bool false :: .bool false :: .bool false :: .bool false :: .bool false :: .bool false :: .bool false :: .bool false :: .bool false :: .bool false :: .bool false :: .bool false :: .bool false :: .bool false :: .bool false :: .bool false :: .bool false :: .bool false :: .bool false :: .bool false :: .bool false :: .bool false :: .bool false :: .bool false :: .bool false :: .bool false :: .bool false :: .bool false :: .bool false :: .bool false :: .bool false :: .bool false :: .bool false :: .bool false :: .bool false :: .bool false :: .bool false :: .bool false :: .bool false :: .bool false :: .bool false :: .bool false :: .bool false :: .bool false :: .bool false :: .bool false :: .bool false :: .bool false :: .bool false :: .bool false :: .bool false :: []) : Array Value) 45))
  have R2 := hid (Blk.new (w.alloc (.cells (List.toArray (.bool false :: .bool false :: .bool false :: .bool false :: .bool false :: .bool false :: .bool false :: .bool false :: .bool false :: .bool false :: .bool false :: .bool false :: .bool false :: .bool false :: .bool false :: .bool false :: .bool false :: .bool false :: .bool false :: .bool false :: .bool false :: .bool false :: .bool false :: .bool false :: .bool false :: .bool false :: .bool false :: .bool false :: .bool false :: .bool false :: .bool false :: .bool false :: .bool false :: .bool false :: .bool false :: .bool false :: .bool false :: .bool false :: .bool false :: .bool false :: .bool false :: .bool false :: .bool false :: .bool false :: .bool false :: .bool false :: .bool false :: .bool false :: .bool false :: .bool false :: .bool false :: .bool false :: .bool false :: .bool false :: .bool false :: .bool false :: .bool false :: .bool false :: .bool false :: .bool false :: .bool false :: .bool false :: .bool false :: .bool false :: []) : Array Value) 45)) 45 (List.toArray (.bool false :: .bool false :: .bool false :: .bool false :: .bool false :: .bool false :: .bool false :: .bool false :: .bool false :: .bool false :: .bool false :: .bool false :: .bool false :: .bool false :: .bool false :: .bool false :: .bool false :: .bool false :: .bool false :: .bool false :: .bool false :: .bool false :: .bool false :: .bool false :: .bool false :: .bool false :: .bool false :: .bool false :: .bool false :: .bool false :: .bool false :: .bool false :: .bool false :: .bool false :: .bool false :: .bool false :: .bool false :: .bool false :: .bool false :: .bool false :: .bool false :: .bool false :: .bool false :: .bool false :: .bool false :: .bool false :: .bool false :: .bool false :: .bool false :: .bool false :: .bool false :: .bool false :: .bool false :: .bool false :: .bool false :: .bool false :: .bool false :: .bool false :: .bool false :: .bool false :: .bool false :: .bool false :: .bool false :: .bool false :: []) : Array Value))
  rw [World.size_alloc] at R2
  go_enter Try.func35, Try.ntmps35
  go_wp2_with (first | (go_at_call 50; refine (CL.out _).mono ?_; rintro e w' ⟨rfl, rfl⟩))
  generalize (w.alloc (.cells (List.toArray (.bool false :: .bool false :: .bool false :: .bool false :: .bool false :: .bool false :: .bool false :: .bool false :: .bool false :: .bool false :: .bool false :: .bool false :: .bool false :: .bool false :: .bool false :: .bool false :: .bool false :: .bool false :: .bool false :: .bool false :: .bool false :: .bool false :: .bool false :: .bool false :: .bool false :: .bool false :: .bool false :: .bool false :: .bool false :: .bool false :: .bool false :: .bool false :: .bool false :: .bool false :: .bool false :: .bool false :: .bool false :: .bool false :: .bool false :: .bool false :: .bool false :: .bool false :: .bool false :: .bool false :: .bool false :: .bool false :: .bool false :: .bool false :: .bool false :: .bool false :: .bool false :: .bool false :: .bool false :: .bool false :: .bool false :: .bool false :: .bool false :: .bool false :: .bool false :: .bool false :: .bool false :: .bool false :: .bool false :: .bool false :: []) : Array Value) 45)).alloc (.cells (List.toArray (.bool false :: .bool false :: .bool false :: .bool false :: .bool false :: .bool false :: .bool false :: .bool false :: .bool false :: .bool false :: .bool false :: .bool false :: .bool false :: .bool false :: .bool false :: .bool false :: .bool false :: .bool false :: .bool false :: .bool false :: .bool false :: .bool false :: .bool false :: .bool false :: .bool false :: .bool false :: .bool false :: .bool false :: .bool false :: .bool false :: .bool false :: .bool false :: .bool false :: .bool false :: .bool false :: .bool false :: .bool false :: .bool false :: .bool false :: .bool false :: .bool false :: .bool false :: .bool false :: .bool false :: .bool false :: .bool false :: .bool false :: .bool false :: .bool false :: .bool false :: .bool false :: .bool false :: .bool false :: .bool false :: .bool false :: .bool false :: .bool false :: .bool false :: .bool false :: .bool false :: .bool false :: .bool false :: .bool false :: .bool false :: []) : Array Value) 45) = w1 at B R R2 ⊢
  have ZB := hid (z64 ▸ R.out)
  have SB := hid (z64 ▸ R2.out)
  rw [part_start k m lo (by have := HLO.out; omega)] at SB
  clear R R2 CL
  go_loopw [6] (fun u wr => ∃ v : Nat, u = .int .i64 v ∧ lo ≤ v ∧ v ≤ hi + 1 ∧ Blk wr (w.heap.size + 1) 45 (bcells 64 (partB k m v)) ∧ Blk wr w.heap.size 45 (bcells 64 (fun _ => false)) ∧ Below w.heap.size w wr) (fun u _ => 64 - (intOf u).toNat)
  case atStart => exact ⟨lo, rfl, by omega, by omega, SB.out, ZB.out, B.out⟩
  case round =>
    obtain ⟨v, rfl, v1, v2, hs, hz, hb⟩ := hrel
    have HS := hid hs
    have HZ := hid hz
    have HB := hid hb
    clear hs hz hb
    by_cases hc : v ≤ hi
    · have c1 : (v : Int) ≤ hi := by omega
      have v64 : v < 63 := by omega
      have v0 : (0 : Int) ≤ v := by omega
      have KB := hid (shr_bit m v h0 h1 (by omega))
      have f1 := HS.out.frozen (1 + v)
      have f2 := HS.out.cell (1 + v)
      rw [bcells_get (by omega)] at f2
      clear HLO HHI h0 h1 hk
      go_wp2_with (first | (go_at_call 51; refine (CH.out _).mono ?_; rintro e w' ⟨rfl, rfl⟩))
      refine ⟨⟨v + 1, by rw [Int.natCast_add]; rfl, by omega, by omega, ?_, HZ.out.other (by omega) _ _, below_set HB.out (by omega) _ _⟩, ?_⟩
      · rcases step_b k m v (by have := LK.out; omega) _ KB.out with e | e
        · have := HS.out.set (1 + v) (.bool (bits .and .u64 (m / 2 ^ v) 1 == 1))
          rwa [e] at this
        · omega
      · clear B SB ZB HS HZ HB CH KB f1 f2
        show 64 - (intOf (Value.int IntKind.i64 (v + 1))).toNat < 64 - (intOf (Value.int IntKind.i64 v)).toNat
        simp only [intOf]
        omega
    · obtain rfl : v = hi + 1 := by omega
      have c1 : ¬ (((hi + 1 : Nat) : Int) ≤ hi) := by omega
      have f1 := HS.out.frozen 0
      have f2 := HS.out.cell 0
      rw [bcells_get (by omega)] at f2
      have KB := hid (star_ne m h0 h1)
      have hset : bcells 64 (put1 (partB k m (hi + 1)) 0 (starB m)) = bcells 64 (setB k m) := by
        apply bcells_ext
        rintro (_ | i) hh
        · simp [put1, setB]
        · simp only [put1, setB, partB, HHI.out, if_neg (show ¬ i + 1 = 0 by omega), show (i < hi + 1) = (i ≤ hi) from propext (by omega)]
      have HE := hid hset
      clear HLO HHI h0 h1 hk hset
      go_upto_region 7 with (first | (go_at_call 51; refine (CH.out _).mono ?_; rintro e w' ⟨rfl, rfl⟩))
      rw [KB.out]
      have hs5 := HS.out.set 0 (.bool (starB m))
      rw [bcells_set (by omega), HE.out] at hs5
      have hz5 := HZ.out.other (g := w.heap.size) (h := w.heap.size + 1) (by omega) 0 (.bool (starB m))
      have hb5 := below_set HB.out (g := w.heap.size + 1) (by omega) 0 (.bool (starB m))
      generalize (w'.setCell ⟨w.heap.size + 1, 0, none⟩ (.bool (starB m))) = w5 at hs5 hz5 hb5 ⊢
      refine wp_region_lit ?_
      have hl := hs5.range_b (o := 0) (m := 64) (by omega)
      rw [show (fun i => setB k m (0 + i)) = setB k m from funext fun i => by rw [Nat.zero_add]] at hl
      refine wpList_load_mid rfl 45 (.tmp 5) rfl (w.heap.size + 1) 0 rfl (bcells 64 (setB k m)).toList _ hl Try.underlying45 rfl (by rw [bcells_len]; kernel_rfl) ?_
      refine wpList_store_mid rfl 45 (.tmp 4) (.tmp 27) rfl w.heap.size 0 (bcells 64 (setB k m)) rfl rfl (by rw [bcells_size]; exact hz5.there_b (by omega)) (by rw [bcells_size]; kernel_rfl) bcells_one ?_
      have hz6 := hz5.putm_b (o := 0) (m := 64) (h := setB k m) (by omega)
      rw [bcells_ext (f := putm (fun _ => false) 0 64 (setB k m)) (h := setB k m) (fun i hi => by simp [putm, hi])] at hz6
      have hb6 := below_setCells (g := w.heap.size) (by omega) (bcells 64 (setB k m)).toList 0 w5 hb5
      generalize (w5.setCells w.heap.size 0 (bcells 64 (setB k m)).toList) = w6 at hz6 hb6 ⊢
      go_wp2_with fail
      exact bodyPost_ret (results_cell_row rfl _ _ w.heap.size 45 _ (0, 0) _ rfl hz6 Try.underlying45 rfl (by rw [bcells_size]; kernel_rfl)) rfl ⟨rfl, hb6⟩
end Go.Proofs.Ytfmagbkcfeckhaa
