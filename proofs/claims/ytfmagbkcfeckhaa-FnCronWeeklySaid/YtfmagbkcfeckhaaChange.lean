/- The reference's CronChange where no transition lies ahead; zones that keep one offset. Walked. -/
import Derived.Test.YtfmagbkcfeckhaaCivil
import Derived.Test.YtfmagbkcfeckhaaLocF
set_option linter.unusedVariables false
set_option linter.unusedSimpArgs false
namespace Go.Proofs.Ytfmagbkcfeckhaa
open Go.RowKit

set_option maxHeartbeats 3200000 in
set_option maxRecDepth 100000 in
theorem change_any (o d h x : Option Addr) (n0 c0 n1 c1 n2 c2 n3 c3 : Nat) (sec : Int) (w : World) (W : Nat → Int) (hn2 : n2 ≤ 4096) (hH : Ints w h n2 W) (hle : ∀ i, i < n2 → W i ≤ sec) :
    Calls Try.prog 33 #[.agg (zcells o d h x n0 c0 n1 c1 n2 c2 n3 c3), .int .i64 sec] w fun e w' => e = .returned (.tuple #[.int .i64 0, .bool false]) ∧ Below w.heap.size w w' := by
  have B := hid (show Below w.heap.size w (w.alloc (.cells (zcells o d h x n0 c0 n1 c1 n2 c2 n3 c3) 34)) by go_grown)
  have R := hid (Blk.new w 34 (zcells o d h x n0 c0 n1 c1 n2 c2 n3 c3))
  have HH := hid (hH.below B.out)
  have HLE := hid hle
  clear hH hle
  go_enter Try.func33, Try.ntmps33
  go_upto_region 1 with fail
  generalize (w.alloc (.cells (zcells o d h x n0 c0 n1 c1 n2 c2 n3 c3) 34)) = w1 at B R HH ⊢
  have k2 : w1.cell? ⟨w.heap.size, 2, none⟩ = some (.slice h n2 c2) := R.out.cell 2
  go_wp2_with fail
  clear k2
  go_loop [11] (fun iv => ∃ k : Nat, k ≤ n2 ∧ iv = .int .i64 k) (fun iv => n2 - (intOf iv).toNat)
  case atStart => exact ⟨0, Nat.zero_le _, rfl⟩
  case round =>
    obtain ⟨k, hk, rfl⟩ := hrel
    by_cases hlt : k < n2
    · obtain ⟨ha, rfl, hy⟩ := HH.out k hlt
      obtain ⟨v, hv⟩ : ∃ v, W k = v := ⟨_, rfl⟩
      have hc : ¬ sec < v := by have := HLE.out k hlt; omega
      rw [hv] at hy
      clear hv
      have u0 : (0 : Int) ≤ (k : Int) := by omega
      have u1 : (k : Int) < (n2 : Int) := by omega
      have u2 : ¬ (n2 : Int) ≤ (k : Int) := by omega
      have hw : IntKind.i64.wrap ((k : Int) + 1) = (k : Int) + 1 := IntWalk.i64_in _ (by omega)
      have hy0 : k = 0 → w1.cell? ha = some (.int .i64 v) := fun e => by rw [e, Addr.add_zero'] at hy; exact hy
      clear hy0
      go_wp2_with fail
      go_round
      case rel => exact ⟨k + 1, by omega, by go_num⟩
      case measure => simp [intOf]; omega
    · obtain rfl : n2 = k := by omega
      have u1 : ¬ (n2 : Int) < (n2 : Int) := by omega
      go_wp2_with fail
      go_returns
      exact ⟨rfl, B.out⟩

/-- A zone that keeps one offset, to the reference. -/
def ZC (z : Array Value) (off : Int) (w : World) : Prop := ∀ X, Below w.heap.size w X → ∀ sec, -1000000000000 ≤ sec → sec ≤ 1000000000000 →
  (Calls Try.prog 30 #[.agg z, .int .i64 sec] X fun e w' => e = .returned (.int .i64 off) ∧ Below X.heap.size X w') ∧
  (Calls Try.prog 33 #[.agg z, .int .i64 sec] X fun e w' => e = .returned (.tuple #[.int .i64 0, .bool false]) ∧ Below X.heap.size X w')
theorem ZC.below {z : Array Value} {off : Int} {w w1 : World} (h : ZC z off w) (hb : Below w.heap.size w w1) : ZC z off w1 := fun X hX => h X (hb.trans (hX.mono hb.size))
theorem ints_none (w : World) (f : Nat → Int) : Ints w none 0 f := fun i hi => absurd hi (Nat.not_lt_zero i)
theorem zc_utc (c0 c1 c2 c3 : Nat) (w : World) : ZC (zcells none none none none 0 c0 0 c1 0 c2 0 c3) 0 w := fun X _ sec _ _ =>
  ⟨offset_any none none none none 0 c0 0 c1 0 c2 0 c3 sec X (fun _ => 0) (fun _ => 0) (fun _ => 0) (by omega) (by omega) rfl ⟨fun _ h => absurd h (Nat.not_lt_zero _), fun h => absurd h (Nat.lt_irrefl 0), fun _ h => absurd h (Nat.not_lt_zero _), fun _ h => absurd h (Nat.not_lt_zero _)⟩ (ints_none _ _) (ints_none _ _) (ints_none _ _),
   change_any none none none none 0 c0 0 c1 0 c2 0 c3 sec X (fun _ => 0) (by omega) (ints_none _ _) (fun i hi => absurd hi (Nat.not_lt_zero i))⟩
theorem zc_one (o d h x : Option Addr) (n0 c0 n1 c1 c2 n3 c3 : Nat) (off : Int) (w : World) (O : Nat → Int) (D : Nat → Bool) (W I : Nat → Int) (h3 : n3 = 1) (hn0 : n0 ≤ 64) (hz : ZIn w o d h x n0 n1 1 n3 O D W I) (ho : off = O (I 0).toNat) : ZC (zcells o d h x n0 c0 n1 c1 1 c2 n3 c3) off w := fun X hX sec s1 s2 => by
  have z := hz.below hX
  have w0 : W 0 = -9223372036854775808 := hz.cont.2.1 (by omega)
  refine ⟨(offset_any o d h x n0 c0 n1 c1 1 c2 n3 c3 sec X O W I (by omega) hn0 h3 z.cont z.off z.whn z.idx).mono ?_, change_any o d h x n0 c0 n1 c1 1 c2 n3 c3 sec X W (by omega) z.whn (fun i hi => ?_)⟩
  · rintro e w' ⟨rfl, hb⟩
    exact ⟨by rw [scan_one w0 s1, ho], hb⟩
  · obtain rfl : i = 0 := by omega
    rw [w0]
    omega
end Go.Proofs.Ytfmagbkcfeckhaa
