/- The reference's CronEmpty, CronNever, CronFieldsOf. Walked. -/
import Derived.Test.YtfmagbkcfeckhaaSetOf
import Derived.Deep.DeepCutAuto
set_option linter.unusedVariables false
set_option linter.unusedSimpArgs false
namespace Go.Proofs.Ytfmagbkcfeckhaa
open Go.RowKit

/-- A set of no value. -/
def emptyB (f : Nat → Bool) : Bool := (List.range 63).all fun i => f (1 + i) == false
theorem z63 : (#[.bool false, .bool false, .bool false, .bool false, .bool false, .bool false, .bool false, .bool false, .bool false, .bool false, .bool false, .bool false, .bool false, .bool false, .bool false, .bool false, .bool false, .bool false, .bool false, .bool false, .bool false, .bool false, .bool false, .bool false, .bool false, .bool false, .bool false, .bool false, .bool false, .bool false, .bool false, .bool false, .bool false, .bool false, .bool false, .bool false, .bool false, .bool false, .bool false, .bool false, .bool false, .bool false, .bool false, .bool false, .bool false, .bool false, .bool false, .bool false, .bool false, .bool false, .bool false, .bool false, .bool false, .bool false, .bool false, .bool false, .bool false, .bool false, .bool false, .bool false, .bool false, .bool false, .bool false] : Array Value) = bcells 63 (fun _ => false) := rfl

set_option maxHeartbeats 3200000 in
set_option maxRecDepth 100000 in
theorem empty_any (f : Nat → Bool) (w : World) : Calls Try.prog 24 #[.agg (bcells 64 f)] w fun e w' => e = .returned (.bool (emptyB f)) ∧ Below w.heap.size w w' := by
  have B := hid (show Below w.heap.size w (w.alloc (.cells (bcells 64 f) 45)) by go_grown)
  have R := hid (Blk.new w 45 (bcells 64 f))
  have hq : ∀ X : World, (Op.equalIn 10000 43 (.agg (bcells 63 fun i => f (1 + i))) (.agg #[.bool false, .bool false, .bool false, .bool false, .bool false, .bool false, .bool false, .bool false, .bool false, .bool false, .bool false, .bool false, .bool false, .bool false, .bool false, .bool false, .bool false, .bool false, .bool false, .bool false, .bool false, .bool false, .bool false, .bool false, .bool false, .bool false, .bool false, .bool false, .bool false, .bool false, .bool false, .bool false, .bool false, .bool false, .bool false, .bool false, .bool false, .bool false, .bool false, .bool false, .bool false, .bool false, .bool false, .bool false, .bool false, .bool false, .bool false, .bool false, .bool false, .bool false, .bool false, .bool false, .bool false, .bool false, .bool false, .bool false, .bool false, .bool false, .bool false, .bool false, .bool false, .bool false, .bool false])).run Try.prog X = .ok (emptyB f) X := fun X => by
    rw [z63]
    exact run_equalIn_bools X 9998 _ _ 63 Try.underlying43 Try.underlying4 (fun w => by kernel_rfl) _ _
  have hf : ∀ X : World, (Instr.field 45 (.agg (List.toArray (.bool false :: .bool false :: .bool false :: .bool false :: .bool false :: .bool false :: .bool false :: .bool false :: .bool false :: .bool false :: .bool false :: .bool false :: .bool false :: .bool false :: .bool false :: .bool false :: .bool false :: .bool false :: .bool false :: .bool false :: .bool false :: .bool false :: .bool false :: .bool false :: .bool false :: .bool false :: .bool false :: .bool false :: .bool false :: .bool false :: .bool false :: .bool false :: .bool false :: .bool false :: .bool false :: .bool false :: .bool false :: .bool false :: .bool false :: .bool false :: .bool false :: .bool false :: .bool false :: .bool false :: .bool false :: .bool false :: .bool false :: .bool false :: .bool false :: .bool false :: .bool false :: .bool false :: .bool false :: .bool false :: .bool false :: .bool false :: .bool false :: .bool false :: .bool false :: .bool false :: .bool false :: .bool false :: .bool false :: .bool false :: []))) 1).run Try.prog X = .ok (.agg #[.bool false, .bool false, .bool false, .bool false, .bool false, .bool false, .bool false, .bool false, .bool false, .bool false, .bool false, .bool false, .bool false, .bool false, .bool false, .bool false, .bool false, .bool false, .bool false, .bool false, .bool false, .bool false, .bool false, .bool false, .bool false, .bool false, .bool false, .bool false, .bool false, .bool false, .bool false, .bool false, .bool false, .bool false, .bool false, .bool false, .bool false, .bool false, .bool false, .bool false, .bool false, .bool false, .bool false, .bool false, .bool false, .bool false, .bool false, .bool false, .bool false, .bool false, .bool false, .bool false, .bool false, .bool false, .bool false, .bool false, .bool false, .bool false, .bool false, .bool false, .bool false, .bool false, .bool false]) X := fun X => by kernel_rfl
  go_enter Try.func24, Try.ntmps24
  go_upto_region 1 with fail
  generalize (w.alloc (.cells (bcells 64 f) 45)) = w1 at B R ⊢
  go_wp2_with (refine wpList_load_mid rfl 43 (.tmp 3) rfl w.heap.size 1 rfl (bcells 63 fun i => f (1 + i)).toList _ (R.out.range_b (by omega)) Try.underlying43 rfl (by rw [bcells_len]; kernel_rfl) ?_)
  go_ret
  exact ⟨rfl, B.out⟩

/-- No second of any day: no hour, no minute or no second is in the sets. -/
def neverB (F : Nat → Bool) : Bool := emptyB (fun i => F (128 + i)) || (emptyB (fun i => F (64 + i)) || emptyB F)

set_option maxHeartbeats 3200000 in
set_option maxRecDepth 100000 in
theorem never_any (F : Nat → Bool) (w : World) : Calls Try.prog 23 #[.agg (bcells 384 F)] w fun e w' => e = .returned (.bool (neverB F)) ∧ Below w.heap.size w w' := by
  have B := hid (show Below w.heap.size w (w.alloc (.cells (bcells 384 F) 47)) by go_grown)
  have R := hid (Blk.new w 47 (bcells 384 F))
  have C2 := hid (fun X => empty_any (fun i => F (128 + i)) X)
  have C1 := hid (fun X => empty_any (fun i => F (64 + i)) X)
  have C0 := hid (fun X => empty_any F X)
  unfold neverB
  obtain ⟨b2, hb2⟩ : ∃ b, emptyB (fun i => F (128 + i)) = b := ⟨_, rfl⟩
  obtain ⟨b1, hb1⟩ : ∃ b, emptyB (fun i => F (64 + i)) = b := ⟨_, rfl⟩
  rw [hb2] at C2 ⊢
  rw [hb1] at C1 ⊢
  obtain ⟨b0, hb0⟩ : ∃ b, emptyB F = b := ⟨_, rfl⟩
  rw [hb0] at C0 ⊢
  clear hb2 hb1 hb0
  go_enter Try.func23, Try.ntmps23
  go_upto_region 1 with fail
  generalize (w.alloc (.cells (bcells 384 F) 47)) = w1 at B R ⊢
  have U := hid (Try.underlying45)
  have N := hid (show ∀ f : Nat → Bool, (Try.prog.info? 45).map (·.size) = some (bcells 64 f).toList.length from fun f => by rw [bcells_len]; kernel_rfl)
  have L0 := hid (fun (X : World) (h : Blk X w.heap.size 47 (bcells 384 F)) => show X.rangeAt w.heap.size 0 (bcells 64 F).toList by
    have := h.range_b (o := 0) (m := 64) (by omega)
    rwa [show (fun i => F (0 + i)) = F from funext fun i => by rw [Nat.zero_add]] at this)
  rcases b2 with _ | _ <;> rcases b1 with _ | _
  all_goals
    go_wp2_with (first
      | (refine wpList_load_mid rfl 45 (.tmp 3) rfl w.heap.size 128 rfl (bcells 64 fun i => F (128 + i)).toList _ (R.out.range_b (by omega)) U.out rfl (N.out _) ?_)
      | (refine wpList_load_g rfl 45 (.tmp 7) rfl w.heap.size 64 rfl (bcells 64 fun i => F (64 + i)).toList _ (R2.out.range_b (by omega)) U.out rfl (N.out _) ?_)
      | (refine wpList_load_g rfl 45 (.tmp 12) rfl w.heap.size 0 rfl (bcells 64 F).toList _ (L0.out _ R1.out) U.out rfl (N.out _) ?_)
      | (go_at_call 24; refine (C2.out _).mono ?_; rintro e w2 ⟨rfl, hb⟩; have R2 := hid (R.out.below hb); have B2 := hid (bt B.out hb); clear hb)
      | (go_at_call 24; refine (C1.out _).mono ?_; rintro e w3 ⟨rfl, hb⟩; have R1 := hid (R2.out.below hb); have B1 := hid (bt B2.out hb); clear hb)
      | (go_at_call 24; refine (C0.out _).mono ?_; rintro e w4 ⟨rfl, hb⟩; have B0 := hid (bt B1.out hb); clear hb))
    go_ret
    first | exact ⟨rfl, B0.out⟩ | exact ⟨rfl, B1.out⟩ | exact ⟨rfl, B2.out⟩
end Go.Proofs.Ytfmagbkcfeckhaa
