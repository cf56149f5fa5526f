/- (As XCronA, without the law.) cron.Every is the schedule of a constant delay (a second at least, what is below a second cut off), for every number of nanoseconds; no condition. -/
import Derived.Test.YtpfjmjbnomiipaaKit
import Derived.IntWalk
set_option linter.unusedVariables false
set_option linter.unusedSimpArgs false
namespace Go.Proofs.Ytpfjmjbnomiipaa
open Go.RowKit
attribute [local go_sem] Instr.field asAgg

theorem nanos_any (d : Int) (w : World) : Calls Try.prog 22 #[.int .i64 d] w fun e w' => e = .returned (.int .i64 d) ∧ w = w' := by
  go_enter Try.func22, Try.ntmps22
  go_wp2
  go_ret
  exact ⟨rfl, rfl⟩

def everyD (d : Int) : Int := if d < 1000000000 then 1000000000 else d - d % 1000000000

theorem everyD_low (d : Int) (h : d < 1000000000) : everyD d = 1000000000 := by unfold everyD; rw [if_pos h]
theorem everyD_high (d : Int) (h : ¬ d < 1000000000) : everyD d = d - d % 1000000000 := by unfold everyD; rw [if_neg h]

theorem every_any (d : Int) (w : World) (h2 : d ≤ 9223372036854775807) :
    Calls Try.prog 15 #[.int .i64 d] w fun e w' => e = .returned (.agg #[.int .i64 (everyD d)]) ∧ Below w.heap.size w w' := by
  by_cases h : d < 1000000000
  · rw [everyD_low d h]
    go_enter Try.func15, Try.ntmps15
    go_wp2
    go_returns
    exact ⟨rfl, (Below.refl _ _).alloc (Nat.le_refl _) _⟩
  · rw [everyD_high d h]
    go_enter Try.func15, Try.ntmps15
    go_wp2
    go_returns
    exact ⟨rfl, (Below.refl _ _).alloc (Nat.le_refl _) _⟩

set_option maxRecDepth 100000 in
theorem implEvery_any (d : Int) (w : World) (h2 : d ≤ 9223372036854775807) :
    Calls Try.prog 9 #[.int .i64 d] w fun e w' => e = .returned (.agg #[.bool true, .int .i64 (everyD d), .int .u64 0, .int .u64 0, .int .u64 0, .int .u64 0, .int .u64 0, .int .u64 0]) ∧ Below w.heap.size w w' := by
  go_enter Try.func9, Try.ntmps9
  go_wp2_with (go_at_call 15; refine (every_any _ _ h2).mono ?_; rintro e w' ⟨rfl, hb⟩; obtain ⟨hc, hf⟩ := bcell hb)
  have hk := (Blk.new w 36 #[.bool false, .int .i64 0, .int .u64 0, .int .u64 0, .int .u64 0, .int .u64 0, .int .u64 0, .int .u64 0]).below hb
  have hk := ((((((((hk.set 0 (.bool true)).set 1 (.int .i64 (everyD d))).set 2 (.int .u64 0)).set 3 (.int .u64 0)).set 4 (.int .u64 0)).set 5 (.int .u64 0)).set 6 (.int .u64 0)).set 7 (.int .u64 0))
  simp only [List.setIfInBounds_toArray, List.set_cons_zero, List.set_cons_succ] at hk
  refine bodyPost_ret (results_cell_row rfl _ _ w.heap.size 36 _ (0, 0) _ rfl hk Try.underlying36 rfl (by kernel_rfl)) rfl ⟨rfl, ?_⟩
  have hb0 : Below w.heap.size w w' := ((Below.refl _ _).alloc (Nat.le_refl _) _).trans (hb.mono (by simp))
  go_grown

theorem cronDelay_any (d : Int) (w : World) (h2 : d ≤ 9223372036854775807) :
    Calls Try.prog 7 #[.int .i64 d] w fun e w' => e = .returned (.int .i64 (everyD d)) ∧ w = w' := by
  by_cases h : d < 1000000000
  · rw [everyD_low d h]
    go_enter Try.func7, Try.ntmps7
    go_wp2
    go_returns
    exact ⟨rfl, rfl⟩
  · rw [everyD_high d h]
    go_enter Try.func7, Try.ntmps7
    go_wp2
    go_returns
    refine ⟨?_, rfl⟩
    show Ending.returned (.int .i64 (d / 1000000000 * 1000000000)) = _
    congr 2
    omega

end Go.Proofs.Ytpfjmjbnomiipaa
