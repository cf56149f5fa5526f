import Derived.Test.YtpfjmjbnomiipaaRows
import Derived.Test.YtpfjmjbnomiipaaManyLaw
import Derived.WalkKit
import Derived.ProofKit
import Derived.OpenShut
import Derived.ShutString
import Derived.ChangeOld
import Derived.Below
import Derived.SizedLaws
import Derived.Deep.Fields
import Derived.Deep.Slices
namespace Go.Proofs.Ytpfjmjbnomiipaa.fnCronDelayMany
open Go.ChangeShapes Go.WideShapes Go.ChangeAt Go.RowKit Go.Deep
open Go.ChangeMaps (open_string shut_string)
set_option linter.unusedVariables false
set_option linter.unusedSimpArgs false
theorem list_of4 (l : List Value) (h : l.length = 4) : ∃ x0 x1 x2 x3, l = [x0, x1, x2, x3] := by
  match l, h with
  | [x0, x1, x2, x3], _ => exact ⟨_, _, _, _, rfl⟩
theorem list_of2 (l : List Value) (h : l.length = 2) : ∃ x0 x1, l = [x0, x1] := by
  match l, h with
  | [x0, x1], _ => exact ⟨_, _, rfl⟩
theorem own : ownKnob Try.prog.godebug = none := by kernel_rfl
theorem laidOut : laidOutB Try.prog = true := by kernel_rfl
set_option maxHeartbeats 3200000 in
set_option maxRecDepth 100000 in
theorem lifted (os : Os) (started : os.Started) (H : Type) (enc : TypeId × Value → H) :
    ReturnsInHanded {} Try.checked os 3 .any (Rows.fnCronDelayManySpec.pre6 enc Try.prog Try.f3 Rows.fnCronDelayManyRow.domain false) (Rows.fnCronDelayManySpec.post enc Try.prog Try.f3 false true false false) := by
  refine returnsInHanded_of_change_sized (C := Try.checked) own started (by kernel_rfl) Try.func3
    (ChangeSpec.witness6 (enc := enc) (C := Try.checked) false ⟨#[], #[.int .i64 0, .agg #[.int .i64 0, .int .i64 0], .agg #[.slice none 0 0, .slice none 0 0, .slice none 0 0, .slice none 0 0], .int .i64 0], []⟩ 8 (by kernel_rfl) (by kernel_rfl) (by kernel_rfl) (by kernel_rfl)) ?_
  intro W base args ds gs before hval0 hW hcnd hsz0 _
  have hval : ∀ (j : Nat) t v, Try.f3.params[j]? = some t → args[j]? = some v → Value.okWide Try.prog W .any base t v := hval0
  have hW' := hW
  obtain ⟨p, q, hA0, hV, rfl, hfz, hnd⟩ := hW
  have hA : DataW.TrodAll enc Try.prog W 0 (fun _ => true) true Try.f3.params.toList args.toList ds p := hA0
  rw [Try.params3] at hA hval
  obtain ⟨v0, vs0, d0, ds0, p0, q0, hargs, rfl, rfl, h0, r0⟩ := trodAll_cons hA
  obtain ⟨v1, vs1, d1, ds1, p1, q1, rfl, rfl, rfl, h1, r1⟩ := trodAll_cons r0
  obtain ⟨v2, vs2, d2, ds2, p2, q2, rfl, rfl, rfl, h2, r2⟩ := trodAll_cons r1
  obtain ⟨v3, vs3, d3, ds3, p3, q3, rfl, rfl, rfl, h3, r3⟩ := trodAll_cons r2
  obtain ⟨rfl, rfl, rfl⟩ := trodAll_nil r3
  obtain rfl : args = #[v0, v1, v2, v3] := by cases args; simp_all
  obtain ⟨rfl, rfl⟩ := trodVars_none hV
  obtain ⟨a0, rfl, rfl, rfl, w0⟩ := open_int Try.underlying2 (hval 0 2 v0 rfl rfl) h0
  have k1 := h1
  have lt1 : ∀ x ∈ p1, x.block < W.heap.size := by obtain ⟨m, hm⟩ := k1; exact DataW.trod_lt m _ _ _ hm
  obtain ⟨l1, n1, rfl, hl1, hg1⟩ := open_aggn Try.underlying23 (by kernel_rfl) (by kernel_rfl) (hval 1 23 v1 rfl rfl) h1
  obtain ⟨c1_0, c1_1, rfl⟩ := list_of2 l1 (hl1.trans rfl)
  obtain ⟨_, y1_0, z1_0, g1_0⟩ := hg1 0 _ rfl
  obtain rfl := Option.some.inj z1_0
  obtain ⟨a1_0, e_a1_0, _, w_a1_0⟩ := DataW.trod_int Try.underlying2 g1_0
  simp only [List.cons.injEq, and_true] at e_a1_0
  subst e_a1_0
  obtain ⟨_, y1_1, z1_1, g1_1⟩ := hg1 1 _ rfl
  obtain rfl := Option.some.inj z1_1
  obtain ⟨a1_1, e_a1_1, _, w_a1_1⟩ := DataW.trod_int Try.underlying3 g1_1
  simp only [List.cons.injEq, and_true] at e_a1_1
  subst e_a1_1
  have k2 := h2
  have lt2 : ∀ x ∈ p2, x.block < W.heap.size := by obtain ⟨m, hm⟩ := k2; exact DataW.trod_lt m _ _ _ hm
  obtain ⟨l2, n2, rfl, hl2, hg2⟩ := open_aggn Try.underlying28 (by kernel_rfl) (by kernel_rfl) (hval 2 28 v2 rfl rfl) h2
  obtain ⟨c2_0, c2_1, c2_2, c2_3, rfl⟩ := list_of4 l2 (hl2.trans rfl)
  obtain ⟨_, y2_0, z2_0, g2_0⟩ := hg2 0 _ rfl
  obtain rfl := Option.some.inj z2_0
  obtain ⟨ao_a2_0, ln_a2_0, cp_a2_0, e_a2_0, s_a2_0⟩ := open_sl isI Try.underlying24 (by kernel_rfl) (fun _ _ _ hh => by obtain ⟨z, hz, _⟩ := DataW.trod_int Try.underlying3 hh; simp only [List.cons.injEq, and_true] at hz; exact ⟨z, hz⟩) g2_0
  simp only [List.cons.injEq, and_true] at e_a2_0
  subst e_a2_0
  obtain ⟨_, y2_1, z2_1, g2_1⟩ := hg2 1 _ rfl
  obtain rfl := Option.some.inj z2_1
  obtain ⟨ao_a2_1, ln_a2_1, cp_a2_1, e_a2_1, s_a2_1⟩ := open_sl isB Try.underlying25 (by kernel_rfl) (fun _ _ _ hh => by obtain ⟨z, hz, _⟩ := DataW.trod_bool Try.underlying4 hh; simp only [List.cons.injEq, and_true] at hz; exact ⟨z, hz⟩) g2_1
  simp only [List.cons.injEq, and_true] at e_a2_1
  subst e_a2_1
  obtain ⟨_, y2_2, z2_2, g2_2⟩ := hg2 2 _ rfl
  obtain rfl := Option.some.inj z2_2
  obtain ⟨ao_a2_2, ln_a2_2, cp_a2_2, e_a2_2, s_a2_2⟩ := open_sl isI Try.underlying26 (by kernel_rfl) (fun _ _ _ hh => by obtain ⟨z, hz, _⟩ := DataW.trod_int Try.underlying2 hh; simp only [List.cons.injEq, and_true] at hz; exact ⟨z, hz⟩) g2_2
  simp only [List.cons.injEq, and_true] at e_a2_2
  subst e_a2_2
  obtain ⟨_, y2_3, z2_3, g2_3⟩ := hg2 3 _ rfl
  obtain rfl := Option.some.inj z2_3
  obtain ⟨ao_a2_3, ln_a2_3, cp_a2_3, e_a2_3, s_a2_3⟩ := open_sl isI Try.underlying24 (by kernel_rfl) (fun _ _ _ hh => by obtain ⟨z, hz, _⟩ := DataW.trod_int Try.underlying3 hh; simp only [List.cons.injEq, and_true] at hz; exact ⟨z, hz⟩) g2_3
  simp only [List.cons.injEq, and_true] at e_a2_3
  subst e_a2_3
  obtain ⟨a3, rfl, rfl, rfl, w3⟩ := open_int Try.underlying3 (hval 3 3 v3 rfl rfl) h3
  clear hA0 hval0 hsz0
  refine (fnCronDelayMany_walk a0 a1_0 a1_1 ao_a2_0 ln_a2_0 cp_a2_0 ao_a2_1 ln_a2_1 cp_a2_1 ao_a2_2 ln_a2_2 cp_a2_2 ao_a2_3 ln_a2_3 cp_a2_3 a3 W w0 w_a1_0 w_a1_1 s_a2_0 s_a2_1 s_a2_2 s_a2_3 w3).mono fun e W' ⟨he, bel⟩ => ?_
  subst he
  exact ⟨_, rfl, _, _, _, [], _, [], hW', trodAll_mk1 (shut_bool Try.underlying4 _), (trodAll_cons_mk (shut_int Try.underlying2 w0) (trodAll_cons_mk (Below.trod laidOut (by kernel_rfl) (of_decide_eq_true (by kernel_rfl)) k1 bel lt1) (trodAll_cons_mk (Below.trod laidOut (by kernel_rfl) (of_decide_eq_true (by kernel_rfl)) k2 bel lt2) (trodAll_cons_mk (shut_int Try.underlying3 w3) trodAll_mk0)))), rfl, bel.frame _, fun h => by cases h⟩
theorem over : Rows.fnCronDelayManyRow.holds Try.pinned (OpenSpec.ofChange Rows.fnCronDelayManySpec) :=
  OpenClaim.holds_of_wide 3 Try.f3 rfl rfl rfl rfl rfl rfl rfl ⟨rfl, rfl, rfl, rfl, rfl⟩ rfl rfl rfl rfl rfl (by kernel_rfl) Try.func3 (by kernel_rfl)
    (of_decide_eq_true (by kernel_rfl)) (by unfold Func.isWrapper; first | (rw [if_pos (by decide +kernel)]; kernel_rfl) | (rw [if_neg (by decide +kernel)]; exact ⟨rfl, rfl⟩))
    (fun os started H enc _ => lifted os started H enc)
end Go.Proofs.Ytpfjmjbnomiipaa.fnCronDelayMany
namespace Go.Proofs.Ytpfjmjbnomiipaa
theorem fnCronDelayMany_holds : Rows.FnCronDelayManySaid := fnCronDelayMany.over
#print axioms fnCronDelayMany_holds
end Go.Proofs.Ytpfjmjbnomiipaa
