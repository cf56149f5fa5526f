/- FnCronItem: for each of the six fields and every text, CronItem gives the set that a value, a range or a star means, with a step or without, and refuses a text that means nothing. Walked. -/
import Derived.Test.YtomkhhpigpilfaaGreatDoorRefS
set_option linter.unusedVariables false
set_option linter.unusedSimpArgs false
namespace Go.Proofs.YtomkhhpigpilfaaGreatDoor
open Go.RowKit

theorem boundsOf_any (k : Nat) (hk : k ≤ 5) (w : World) : Calls Tryz.prog 95 #[.int .i64 k] w fun e w' => e = .returned (.agg #[.int .i64 (kLo k : Nat), .int .i64 (kHi k : Nat), .int .i64 k]) ∧ Below w.heap.size w w' := by
  have CL := hid (fun w => low_any k hk w)
  have CH := hid (fun w => high_any k hk w)
  generalize kLo k = lo at CL ⊢
  generalize kHi k = hi at CH ⊢
  clear hk
  go_enter Tryz.func95, Tryz.ntmps95
  go_wp2_with (first
    | (go_at_call 29; refine (CL.out _).mono ?_; rintro e w' ⟨rfl, rfl⟩)
    | (go_at_call 62; refine (CH.out _).mono ?_; rintro e w' ⟨rfl, rfl⟩))
  go_returns
  exact ⟨rfl, by go_grown⟩

theorem bitF_no (F : Nat → Bool) (n : Nat) (h : F (n + 1) = false) : bitF F (n + 1) = bitF F n := by
  show (bitF F n ||| if F (n + 1) = true then 2 ^ n else 0) = _
  rw [h]
  exact Nat.or_zero _
theorem bitF_yes (F : Nat → Bool) (n : Nat) (h : F (n + 1) = true) : bitF F (n + 1) = (bitF F n ||| 2 ^ n) := by
  show (bitF F n ||| if F (n + 1) = true then 2 ^ n else 0) = _
  rw [h]
  rfl
set_option maxRecDepth 100000 in
theorem run_idx (F : Nat → Bool) (n : Nat) (h : n < 63) (w : World) : (Instr.index 38 (.agg (bcells 63 F)) (.int .i64 n)).run Tryz.prog w = .ok (.bool (F n)) w := by
  have hu := Tryz.underlying38
  have hs : ∀ w, (sizeOf 4).run Tryz.prog w = .ok 1 w := fun w => by kernel_rfl
  have hub := Tryz.underlying4
  have h1 : (0 : Int) ≤ (n : Int) := by omega
  have h2 : (n : Int) < 63 := by omega
  have hg : (bcells 63 F)[n]? = some (.bool (F n)) := bcells_get h
  have hz : (bcells 63 F).size = 63 := bcells_size
  generalize bcells 63 F = cs at hg hz ⊢
  simp [Instr.index, run_underlying hu, asIntOf, h1, h2, hs, go_sem]
  rw [if_pos h, hg]
  rfl
theorem item_meets (k : Nat) (l : List UInt8) : ((itemRK k l).2 = 0 → itemK k l = none) ∧ ((itemRK k l).2 = 1 → itemK k l = some (itemRK k l).1) :=
  item_law (kLo k) (kHi k) (dayB k) (valR k) (ival k lwL) (fun x h => val_bad (lwL_ascii x) h) (fun x n h => val_fine (lwL_ascii x) h) (k_bounds k).1 (k_bounds k).2 l

end Go.Proofs.YtomkhhpigpilfaaGreatDoor
