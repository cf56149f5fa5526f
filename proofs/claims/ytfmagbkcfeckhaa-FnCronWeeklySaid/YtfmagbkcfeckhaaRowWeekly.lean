import Derived.Test.YtfmagbkcfeckhaaRows
import Derived.Test.YtfmagbkcfeckhaaLWeek
import Derived.WalkKit
import Derived.ProofKit
import Derived.OpenShut
import Derived.ShutString
import Derived.ChangeOld
import Derived.Below
import Derived.SizedLaws
import Derived.Deep.Fields
import Derived.Deep.Slices
namespace Go.Proofs.Ytfmagbkcfeckhaa.fnCronWeekly
open Go.ChangeShapes Go.WideShapes Go.ChangeAt Go.RowKit Go.Deep
open Go.ChangeMaps (open_string shut_string)
set_option linter.unusedVariables false
set_option linter.unusedSimpArgs false
theorem list_of8 (l : List Value) (h : l.length = 8) : ∃ x0 x1 x2 x3 x4 x5 x6 x7, l = [x0, x1, x2, x3, x4, x5, x6, x7] := by
  match l, h with
  | [x0, x1, x2, x3, x4, x5, x6, x7], _ => exact ⟨_, _, _, _, _, _, _, _, rfl⟩
theorem list_of2 (l : List Value) (h : l.length = 2) : ∃ x0 x1, l = [x0, x1] := by
  match l, h with
  | [x0, x1], _ => exact ⟨_, _, rfl⟩
theorem own : ownKnob Try.prog.godebug = none := by kernel_rfl
theorem laidOut : laidOutB Try.prog = true := by kernel_rfl
set_option maxHeartbeats 3200000 in
set_option maxRecDepth 100000 in
theorem lifted (os : Os) (started : os.Started) (H : Type) (enc : TypeId × Value → H) :
    ReturnsInHanded {} Try.checked os 7 .any (Rows.fnCronWeeklySpec.pre6 enc Try.prog Try.f7 Rows.fnCronWeeklyRow.domain false) (Rows.fnCronWeeklySpec.post enc Try.prog Try.f7 false true false false) := by
  refine returnsInHanded_of_change_sized (C := Try.checked) own started (by kernel_rfl) Try.func7
    (ChangeSpec.witness6 (enc := enc) (C := Try.checked) false ⟨#[], #[.agg #[.bool false, .int .i64 0, .int .u64 0, .int .u64 0, .int .u64 0, .int .u64 0, .int .u64 0, .int .u64 0], .agg #[.int .i64 0, .int .i64 0], .int .i64 0], []⟩ 8 (by kernel_rfl) (by kernel_rfl) (by kernel_rfl) (by kernel_rfl)) ?_
  intro W base args ds gs before hval0 hW hcnd hsz0 _
  have hval : ∀ (j : Nat) t v, Try.f7.params[j]? = some t → args[j]? = some v → Value.okWide Try.prog W .any base t v := hval0
  have hW' := hW
  obtain ⟨p, q, hA0, hV, rfl, hfz, hnd⟩ := hW
  have hA : DataW.TrodAll enc Try.prog W 0 (fun _ => true) true Try.f7.params.toList args.toList ds p := hA0
  rw [Try.params7] at hA hval
  obtain ⟨v0, vs0, d0, ds0, p0, q0, hargs, rfl, rfl, h0, r0⟩ := trodAll_cons hA
  obtain ⟨v1, vs1, d1, ds1, p1, q1, rfl, rfl, rfl, h1, r1⟩ := trodAll_cons r0
  obtain ⟨v2, vs2, d2, ds2, p2, q2, rfl, rfl, rfl, h2, r2⟩ := trodAll_cons r1
  obtain ⟨rfl, rfl, rfl⟩ := trodAll_nil r2
  obtain rfl : args = #[v0, v1, v2] := by cases args; simp_all
  obtain ⟨rfl, rfl⟩ := trodVars_none hV
  have k0 := h0
  have lt0 : ∀ x ∈ p0, x.block < W.heap.size := by obtain ⟨m, hm⟩ := k0; exact DataW.trod_lt m _ _ _ hm
  obtain ⟨l0, n0, rfl, hl0, hg0⟩ := open_aggn Try.underlying24 (by kernel_rfl) (by kernel_rfl) (hval 0 24 v0 rfl rfl) h0
  obtain ⟨c0_0, c0_1, c0_2, c0_3, c0_4, c0_5, c0_6, c0_7, rfl⟩ := list_of8 l0 (hl0.trans rfl)
  obtain ⟨_, y0_0, z0_0, g0_0⟩ := hg0 0 _ rfl
  obtain rfl := Option.some.inj z0_0
  obtain ⟨a0_0, e_a0_0, _⟩ := DataW.trod_bool Try.underlying4 g0_0
  simp only [List.cons.injEq, and_true] at e_a0_0
  subst e_a0_0
  obtain ⟨_, y0_1, z0_1, g0_1⟩ := hg0 1 _ rfl
  obtain rfl := Option.some.inj z0_1
  obtain ⟨a0_1, e_a0_1, _, w_a0_1⟩ := DataW.trod_int Try.underlying2 g0_1
  simp only [List.cons.injEq, and_true] at e_a0_1
  subst e_a0_1
  obtain ⟨_, y0_2, z0_2, g0_2⟩ := hg0 2 _ rfl
  obtain rfl := Option.some.inj z0_2
  obtain ⟨a0_2, e_a0_2, _, w_a0_2⟩ := DataW.trod_int Try.underlying22 g0_2
  simp only [List.cons.injEq, and_true] at e_a0_2
  subst e_a0_2
  obtain ⟨_, y0_3, z0_3, g0_3⟩ := hg0 3 _ rfl
  obtain rfl := Option.some.inj z0_3
  obtain ⟨a0_3, e_a0_3, _, w_a0_3⟩ := DataW.trod_int Try.underlying22 g0_3
  simp only [List.cons.injEq, and_true] at e_a0_3
  subst e_a0_3
  obtain ⟨_, y0_4, z0_4, g0_4⟩ := hg0 4 _ rfl
  obtain rfl := Option.some.inj z0_4
  obtain ⟨a0_4, e_a0_4, _, w_a0_4⟩ := DataW.trod_int Try.underlying22 g0_4
  simp only [List.cons.injEq, and_true] at e_a0_4
  subst e_a0_4
  obtain ⟨_, y0_5, z0_5, g0_5⟩ := hg0 5 _ rfl
  obtain rfl := Option.some.inj z0_5
  obtain ⟨a0_5, e_a0_5, _, w_a0_5⟩ := DataW.trod_int Try.underlying22 g0_5
  simp only [List.cons.injEq, and_true] at e_a0_5
  subst e_a0_5
  obtain ⟨_, y0_6, z0_6, g0_6⟩ := hg0 6 _ rfl
  obtain rfl := Option.some.inj z0_6
  obtain ⟨a0_6, e_a0_6, _, w_a0_6⟩ := DataW.trod_int Try.underlying22 g0_6
  simp only [List.cons.injEq, and_true] at e_a0_6
  subst e_a0_6
  obtain ⟨_, y0_7, z0_7, g0_7⟩ := hg0 7 _ rfl
  obtain rfl := Option.some.inj z0_7
  obtain ⟨a0_7, e_a0_7, _, w_a0_7⟩ := DataW.trod_int Try.underlying22 g0_7
  simp only [List.cons.injEq, and_true] at e_a0_7
  subst e_a0_7
  have k1 := h1
  have lt1 : ∀ x ∈ p1, x.block < W.heap.size := by obtain ⟨m, hm⟩ := k1; exact DataW.trod_lt m _ _ _ hm
  obtain ⟨l1, n1, rfl, hl1, hg1⟩ := open_aggn Try.underlying26 (by kernel_rfl) (by kernel_rfl) (hval 1 26 v1 rfl rfl) h1
  obtain ⟨c1_0, c1_1, rfl⟩ := list_of2 l1 (hl1.trans rfl)
  obtain ⟨_, y1_0, z1_0, g1_0⟩ := hg1 0 _ rfl
  obtain rfl := Option.some.inj z1_0
  obtain ⟨a1_0, e_a1_0, _, w_a1_0⟩ := DataW.trod_int Try.underlying2 g1_0
  simp only [List.cons.injEq, and_true] at e_a1_0
  subst e_a1_0
  obtain ⟨_, y1_1, z1_1, g1_1⟩ := hg1 1 _ rfl
  obtain rfl := Option.some.inj z1_1
  obtain ⟨a1_1, e_a1_1, _, w_a1_1⟩ := DataW.trod_int Try.underlying3 g1_1
  simp only [List.cons.injEq, and_true] at e_a1_1
  subst e_a1_1
  obtain ⟨a2, rfl, rfl, rfl, w2⟩ := open_int Try.underlying3 (hval 2 3 v2 rfl rfl) h2
  clear hA0 hval0 hsz0
  refine (fnCronWeekly_walk a0_0 a0_1 a0_2 a0_3 a0_4 a0_5 a0_6 a0_7 a1_0 a1_1 a2 W w_a0_1 w_a0_2 w_a0_3 w_a0_4 w_a0_5 w_a0_6 w_a0_7 w_a1_0 w_a1_1 w2).mono fun e W' ⟨he, bel⟩ => ?_
  subst he
  exact ⟨_, rfl, _, _, _, [], _, [], hW', trodAll_mk1 (shut_bool Try.underlying4 _), (trodAll_cons_mk (Below.trod laidOut (by kernel_rfl) (of_decide_eq_true (by kernel_rfl)) k0 bel lt0) (trodAll_cons_mk (Below.trod laidOut (by kernel_rfl) (of_decide_eq_true (by kernel_rfl)) k1 bel lt1) (trodAll_cons_mk (shut_int Try.underlying3 w2) trodAll_mk0))), rfl, bel.frame _, fun h => by cases h⟩
theorem over : Rows.fnCronWeeklyRow.holds Try.pinned (OpenSpec.ofChange Rows.fnCronWeeklySpec) :=
  OpenClaim.holds_of_wide 7 Try.f7 rfl rfl rfl rfl rfl rfl rfl ⟨rfl, rfl, rfl, rfl, rfl⟩ rfl rfl rfl rfl rfl (by kernel_rfl) Try.func7 (by kernel_rfl)
    (of_decide_eq_true (by kernel_rfl)) (by unfold Func.isWrapper; first | (rw [if_pos (by decide +kernel)]; kernel_rfl) | (rw [if_neg (by decide +kernel)]; exact ⟨rfl, rfl⟩))
    (fun os started H enc _ => lifted os started H enc)
end Go.Proofs.Ytfmagbkcfeckhaa.fnCronWeekly
namespace Go.Proofs.Ytfmagbkcfeckhaa
theorem fnCronWeekly_holds : Rows.FnCronWeeklySaid := fnCronWeekly.over
#print axioms fnCronWeekly_holds
end Go.Proofs.Ytfmagbkcfeckhaa
