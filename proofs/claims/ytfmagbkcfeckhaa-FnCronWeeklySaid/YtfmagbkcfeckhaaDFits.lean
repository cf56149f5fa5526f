/- The reference's CronDayFits. Walked. -/
import Derived.Test.YtfmagbkcfeckhaaFields
import Derived.Test.YtfmagbkcfeckhaaTimeK
set_option linter.unusedVariables false
set_option linter.unusedSimpArgs false
namespace Go.Proofs.Ytfmagbkcfeckhaa
open Go.RowKit

/-- The day fields let in day D of a month, day W of a week. -/
def fitF (F : Nat → Bool) (D W : Nat) : Bool := if F 192 || F 320 then F (193 + D) && F (321 + W) else F (193 + D) || F (321 + W)

set_option maxHeartbeats 3200000 in
set_option maxRecDepth 100000 in
theorem dayFits_any (F : Nat → Bool) (Y M : Int) (D W : Nat) (w : World) (hD : D ≤ 31) (hW : W ≤ 6) : Calls Try.prog 48 #[.agg (bcells 384 F), .agg #[.int .i64 Y, .int .i64 M, .int .i64 D], .int .i64 W] w fun e w' => e = .returned (.bool (fitF F D W)) ∧ Below w.heap.size w w' := by
  have s1 : (w.alloc (.cells (bcells 384 F) 47)).heap.size = w.heap.size + 1 := by simp
  have B := hid (show Below w.heap.size w ((w.alloc (.cells (bcells 384 F) 47)).alloc (.cells #[.int .i64 Y, .int .i64 M, .int .i64 D] 72)) by go_grown)
  have K := hid ((Blk.new w 47 (bcells 384 F)).alloc (.cells #[.int .i64 Y, .int .i64 M, .int .i64 D] 72))
  have R := hid (Blk.new (w.alloc (.cells (bcells 384 F) 47)) 72 #[.int .i64 Y, .int .i64 M, .int .i64 D])
  rw [s1] at R
  have d0 : (0 : Int) ≤ D := by omega
  have d1 : (D : Int) < 63 := by omega
  have w0 : (0 : Int) ≤ W := by omega
  have w9 : (W : Int) < 63 := by omega
  have n0 : 193 + D < 384 := by omega
  have n1 : 321 + W < 384 := by omega
  clear s1 hD hW
  unfold fitF
  obtain ⟨x, hx⟩ : ∃ x, F (193 + D) = x := ⟨_, rfl⟩
  obtain ⟨y, hy⟩ : ∃ y, F (321 + W) = y := ⟨_, rfl⟩
  obtain ⟨a, ha⟩ : ∃ a, F 192 = a := ⟨_, rfl⟩
  obtain ⟨b, hb⟩ : ∃ b, F 320 = b := ⟨_, rfl⟩
  rw [hx, hy, ha, hb]
  have HX := hid hx
  have HY := hid hy
  have HA := hid ha
  have HB := hid hb
  clear hx hy ha hb
  go_enter Try.func48, Try.ntmps48
  go_upto_region 1 with fail
  generalize ((w.alloc (.cells (bcells 384 F) 47)).alloc (.cells #[.int .i64 Y, .int .i64 M, .int .i64 D] 72)) = w1 at B K R ⊢
  have k0 : ∀ d os, (Go.Sort.grow (redrawn w1 d) os).cell? ⟨w.heap.size + 1, 2, none⟩ = some (.int .i64 D) := fun d os => (blk_gr R.out d os).cell 2
  have k1 : ∀ d os, (Go.Sort.grow (redrawn w1 d) os).cell? ⟨w.heap.size, 193 + D, none⟩ = some (.bool x) := fun d os => by rw [(blk_gr K.out d os).cell, bcells_get n0, HX.out]
  have k2 : ∀ d os, (Go.Sort.grow (redrawn w1 d) os).cell? ⟨w.heap.size, 321 + W, none⟩ = some (.bool y) := fun d os => by rw [(blk_gr K.out d os).cell, bcells_get n1, HY.out]
  clear n0 n1
  refine wp_region_quiet_below (by kernel_rfl) (by kernel_rfl) ?_
  repeat (go_big_quiet_step (fail))
  refine wpQuiet_nil ?_
  intro _ hw'
  obtain ⟨⟨dq, osq⟩, hw''⟩ := hw'
  subst hw''
  have B2 := hid (bt B.out (below_regrown w1 dq osq))
  have K2 := hid (blk_gr K.out dq osq)
  clear k0 k1 k2
  generalize Go.Sort.grow (redrawn w1 dq) osq = w3 at B2 K2 ⊢
  have c0 := K2.out.cell 192
  have c1 := K2.out.cell 320
  rw [bcells_get (by omega), HA.out] at c0
  rw [bcells_get (by omega), HB.out] at c1
  clear HA HB HX HY
  rcases a with _ | _ <;> rcases b with _ | _ <;> rcases x with _ | _
  all_goals
    go_wp2_with fail
    go_ret
    exact ⟨rfl, B2.out⟩
end Go.Proofs.Ytfmagbkcfeckhaa
