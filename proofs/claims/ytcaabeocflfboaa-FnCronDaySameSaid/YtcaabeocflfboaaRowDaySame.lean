import Derived.Test.YtcaabeocflfboaaRows
import Derived.Test.YtcaabeocflfboaaDaySame
import Derived.WalkKit
import Derived.ProofKit
import Derived.OpenShut
import Derived.ShutString
import Derived.ChangeOld
import Derived.Below
import Derived.SizedLaws
import Derived.Deep.Fields
import Derived.Deep.Slices
namespace Go.Proofs.Ytcaabeocflfboaa.fnCronDaySame
open Go.ChangeShapes Go.WideShapes Go.ChangeAt Go.RowKit Go.Deep
open Go.ChangeMaps (open_string shut_string)
set_option linter.unusedVariables false
set_option linter.unusedSimpArgs false
theorem list_of4 (l : List Value) (h : l.length = 4) : ∃ x0 x1 x2 x3, l = [x0, x1, x2, x3] := by
  match l, h with
  | [x0, x1, x2, x3], _ => exact ⟨_, _, _, _, rfl⟩
theorem list_of2 (l : List Value) (h : l.length = 2) : ∃ x0 x1, l = [x0, x1] := by
  match l, h with
  | [x0, x1], _ => exact ⟨_, _, rfl⟩
theorem own : ownKnob Try.prog.godebug = none := by kernel_rfl
theorem laidOut : laidOutB Try.prog = true := by kernel_rfl
set_option maxHeartbeats 3200000 in
set_option maxRecDepth 100000 in
theorem lifted (os : Os) (started : os.Started) (H : Type) (enc : TypeId × Value → H) :
    ReturnsInHanded {} Try.checked os 3 .any (Rows.fnCronDaySameSpec.pre6 enc Try.prog Try.f3 Rows.fnCronDaySameRow.domain false) (Rows.fnCronDaySameSpec.post enc Try.prog Try.f3 false true false false) := by
  refine returnsInHanded_of_change_sized (C := Try.checked) own started (by kernel_rfl) Try.func3
    (ChangeSpec.witness6 (enc := enc) (C := Try.checked) false ⟨#[], #[.int .u64 0, .int .u64 0, .agg #[.int .i64 0, .int .i64 0], .agg #[.int .i64 0, .int .i64 0], .agg #[.slice none 0 0, .slice none 0 0, .slice none 0 0, .slice none 0 0]], []⟩ 8 (by kernel_rfl) (by kernel_rfl) (by kernel_rfl) (by kernel_rfl)) ?_
  intro W base args ds gs before hval0 hW hcnd hsz0 _
  have hval : ∀ (j : Nat) t v, Try.f3.params[j]? = some t → args[j]? = some v → Value.okWide Try.prog W .any base t v := hval0
  have hW' := hW
  obtain ⟨p, q, hA0, hV, rfl, hfz, hnd⟩ := hW
  have hA : DataW.TrodAll enc Try.prog W 0 (fun _ => true) true Try.f3.params.toList args.toList ds p := hA0
  rw [Try.params3] at hA hval
  obtain ⟨v0, vs0, d0, ds0, p0, q0, hargs, rfl, rfl, h0, r0⟩ := trodAll_cons hA
  obtain ⟨v1, vs1, d1, ds1, p1, q1, rfl, rfl, rfl, h1, r1⟩ := trodAll_cons r0
  obtain ⟨v2, vs2, d2, ds2, p2, q2, rfl, rfl, rfl, h2, r2⟩ := trodAll_cons r1
  obtain ⟨v3, vs3, d3, ds3, p3, q3, rfl, rfl, rfl, h3, r3⟩ := trodAll_cons r2
  obtain ⟨v4, vs4, d4, ds4, p4, q4, rfl, rfl, rfl, h4, r4⟩ := trodAll_cons r3
  obtain ⟨rfl, rfl, rfl⟩ := trodAll_nil r4
  obtain rfl : args = #[v0, v1, v2, v3, v4] := by cases args; simp_all
  obtain ⟨rfl, rfl⟩ := trodVars_none hV
  obtain ⟨a0, rfl, rfl, rfl, w0⟩ := open_int Try.underlying22 (hval 0 22 v0 rfl rfl) h0
  obtain ⟨a1, rfl, rfl, rfl, w1⟩ := open_int Try.underlying22 (hval 1 22 v1 rfl rfl) h1
  have k2 := h2
  have lt2 : ∀ x ∈ p2, x.block < W.heap.size := by obtain ⟨m, hm⟩ := k2; exact DataW.trod_lt m _ _ _ hm
  obtain ⟨l2, n2, rfl, hl2, hg2⟩ := open_aggn Try.underlying24 (by kernel_rfl) (by kernel_rfl) (hval 2 24 v2 rfl rfl) h2
  obtain ⟨c2_0, c2_1, rfl⟩ := list_of2 l2 (hl2.trans rfl)
  obtain ⟨_, y2_0, z2_0, g2_0⟩ := hg2 0 _ rfl
  obtain rfl := Option.some.inj z2_0
  obtain ⟨a2_0, e_a2_0, _, w_a2_0⟩ := DataW.trod_int Try.underlying2 g2_0
  simp only [List.cons.injEq, and_true] at e_a2_0
  subst e_a2_0
  obtain ⟨_, y2_1, z2_1, g2_1⟩ := hg2 1 _ rfl
  obtain rfl := Option.some.inj z2_1
  obtain ⟨a2_1, e_a2_1, _, w_a2_1⟩ := DataW.trod_int Try.underlying3 g2_1
  simp only [List.cons.injEq, and_true] at e_a2_1
  subst e_a2_1
  have k3 := h3
  have lt3 : ∀ x ∈ p3, x.block < W.heap.size := by obtain ⟨m, hm⟩ := k3; exact DataW.trod_lt m _ _ _ hm
  obtain ⟨l3, n3, rfl, hl3, hg3⟩ := open_aggn Try.underlying24 (by kernel_rfl) (by kernel_rfl) (hval 3 24 v3 rfl rfl) h3
  obtain ⟨c3_0, c3_1, rfl⟩ := list_of2 l3 (hl3.trans rfl)
  obtain ⟨_, y3_0, z3_0, g3_0⟩ := hg3 0 _ rfl
  obtain rfl := Option.some.inj z3_0
  obtain ⟨a3_0, e_a3_0, _, w_a3_0⟩ := DataW.trod_int Try.underlying2 g3_0
  simp only [List.cons.injEq, and_true] at e_a3_0
  subst e_a3_0
  obtain ⟨_, y3_1, z3_1, g3_1⟩ := hg3 1 _ rfl
  obtain rfl := Option.some.inj z3_1
  obtain ⟨a3_1, e_a3_1, _, w_a3_1⟩ := DataW.trod_int Try.underlying3 g3_1
  simp only [List.cons.injEq, and_true] at e_a3_1
  subst e_a3_1
  have k4 := h4
  have lt4 : ∀ x ∈ p4, x.block < W.heap.size := by obtain ⟨m, hm⟩ := k4; exact DataW.trod_lt m _ _ _ hm
  obtain ⟨l4, n4, rfl, hl4, hg4⟩ := open_aggn Try.underlying29 (by kernel_rfl) (by kernel_rfl) (hval 4 29 v4 rfl rfl) h4
  obtain ⟨c4_0, c4_1, c4_2, c4_3, rfl⟩ := list_of4 l4 (hl4.trans rfl)
  obtain ⟨_, y4_0, z4_0, g4_0⟩ := hg4 0 _ rfl
  obtain rfl := Option.some.inj z4_0
  obtain ⟨ao_a4_0, ln_a4_0, cp_a4_0, e_a4_0, s_a4_0⟩ := open_sl isI Try.underlying25 (by kernel_rfl) (fun _ _ _ hh => by obtain ⟨z, hz, _⟩ := DataW.trod_int Try.underlying3 hh; simp only [List.cons.injEq, and_true] at hz; exact ⟨z, hz⟩) g4_0
  simp only [List.cons.injEq, and_true] at e_a4_0
  subst e_a4_0
  obtain ⟨_, y4_1, z4_1, g4_1⟩ := hg4 1 _ rfl
  obtain rfl := Option.some.inj z4_1
  obtain ⟨ao_a4_1, ln_a4_1, cp_a4_1, e_a4_1, s_a4_1⟩ := open_sl isB Try.underlying26 (by kernel_rfl) (fun _ _ _ hh => by obtain ⟨z, hz, _⟩ := DataW.trod_bool Try.underlying4 hh; simp only [List.cons.injEq, and_true] at hz; exact ⟨z, hz⟩) g4_1
  simp only [List.cons.injEq, and_true] at e_a4_1
  subst e_a4_1
  obtain ⟨_, y4_2, z4_2, g4_2⟩ := hg4 2 _ rfl
  obtain rfl := Option.some.inj z4_2
  obtain ⟨ao_a4_2, ln_a4_2, cp_a4_2, e_a4_2, s_a4_2⟩ := open_sl isI Try.underlying27 (by kernel_rfl) (fun _ _ _ hh => by obtain ⟨z, hz, _⟩ := DataW.trod_int Try.underlying2 hh; simp only [List.cons.injEq, and_true] at hz; exact ⟨z, hz⟩) g4_2
  simp only [List.cons.injEq, and_true] at e_a4_2
  subst e_a4_2
  obtain ⟨_, y4_3, z4_3, g4_3⟩ := hg4 3 _ rfl
  obtain rfl := Option.some.inj z4_3
  obtain ⟨ao_a4_3, ln_a4_3, cp_a4_3, e_a4_3, s_a4_3⟩ := open_sl isI Try.underlying25 (by kernel_rfl) (fun _ _ _ hh => by obtain ⟨z, hz, _⟩ := DataW.trod_int Try.underlying3 hh; simp only [List.cons.injEq, and_true] at hz; exact ⟨z, hz⟩) g4_3
  simp only [List.cons.injEq, and_true] at e_a4_3
  subst e_a4_3
  clear hA0 hval0 hsz0
  refine (fnCronDaySame_walk a0 a1 a2_0 a2_1 a3_0 a3_1 ao_a4_0 ln_a4_0 cp_a4_0 ao_a4_1 ln_a4_1 cp_a4_1 ao_a4_2 ln_a4_2 cp_a4_2 ao_a4_3 ln_a4_3 cp_a4_3 W w0 w1 w_a2_0 w_a2_1 w_a3_0 w_a3_1 s_a4_0 s_a4_1 s_a4_2 s_a4_3).mono fun e W' ⟨he, bel⟩ => ?_
  subst he
  exact ⟨_, rfl, _, _, _, [], _, [], hW', trodAll_mk1 (shut_bool Try.underlying4 _), (trodAll_cons_mk (shut_int Try.underlying22 w0) (trodAll_cons_mk (shut_int Try.underlying22 w1) (trodAll_cons_mk (Below.trod laidOut (by kernel_rfl) (of_decide_eq_true (by kernel_rfl)) k2 bel lt2) (trodAll_cons_mk (Below.trod laidOut (by kernel_rfl) (of_decide_eq_true (by kernel_rfl)) k3 bel lt3) (trodAll_cons_mk (Below.trod laidOut (by kernel_rfl) (of_decide_eq_true (by kernel_rfl)) k4 bel lt4) trodAll_mk0))))), rfl, bel.frame _, fun h => by cases h⟩
theorem over : Rows.fnCronDaySameRow.holds Try.pinned (OpenSpec.ofChange Rows.fnCronDaySameSpec) :=
  OpenClaim.holds_of_wide 3 Try.f3 rfl rfl rfl rfl rfl rfl rfl ⟨rfl, rfl, rfl, rfl, rfl⟩ rfl rfl rfl rfl rfl (by kernel_rfl) Try.func3 (by kernel_rfl)
    (of_decide_eq_true (by kernel_rfl)) (by unfold Func.isWrapper; first | (rw [if_pos (by decide +kernel)]; kernel_rfl) | (rw [if_neg (by decide +kernel)]; exact ⟨rfl, rfl⟩))
    (fun os started H enc _ => lifted os started H enc)
end Go.Proofs.Ytcaabeocflfboaa.fnCronDaySame
namespace Go.Proofs.Ytcaabeocflfboaa
theorem fnCronDaySame_holds : Rows.FnCronDaySameSaid := fnCronDaySame.over
#print axioms fnCronDaySame_holds
end Go.Proofs.Ytcaabeocflfboaa
