import Derived.Test.YtjbafphoemibaaaGreatDoorRows
import Derived.Test.YtjbafphoemibaaaGreatDoorEachW
import Derived.Test.YtjbafphoemibaaaGreatDoorLaidE
import Derived.Test.YtjbafphoemibaaaGreatDoorTie
import Derived.Test.YtjbafphoemibaaaGreatDoorCards
import Derived.Handed
import Derived.Lay
import Derived.MakeChecks
import Derived.SevenTiedAt
import Derived.WalkKit
import Derived.ProofKit
import Derived.OpenShut
import Derived.ShutString
import Derived.ChangeOld
import Derived.Below
import Derived.SizedLaws
import Derived.Deep.Fields
import Derived.Deep.Slices
namespace Go.Proofs.YtjbafphoemibaaaGreatDoor.fnCronEachMinutes
open Go.ChangeShapes Go.WideShapes Go.ChangeAt Go.RowKit Go.Deep
open Go.ChangeMaps (open_string shut_string)
set_option linter.unusedVariables false
set_option linter.unusedSimpArgs false
theorem list_of2 (l : List Value) (h : l.length = 2) : ∃ x0 x1, l = [x0, x1] := by
  match l, h with
  | [x0, x1], _ => exact ⟨_, _, rfl⟩
theorem own : ownKnob Tryz.prog.godebug = none := by kernel_rfl
theorem laidOut : laidOutB Tryz.prog = true := by kernel_rfl
set_option maxHeartbeats 3200000 in
set_option maxRecDepth 100000 in
theorem lifted (os : Os) (started : os.Started) (H : Type) (enc : TypeId × Value → H) :
    ReturnsInHanded {} Tryz.checked os 3 .any (fun w args => (Rows.fnCronEachMinutesSpec.pre enc Tryz.prog Tryz.f3 [] false w args ∧ laidMetH Tryz.prog Rows.fnCronEachMinutesRow.laid w) ∧ sizedMet enc Tryz.prog Tryz.f3 (OpenSpec.ofChange Rows.fnCronEachMinutesSpec) false w args) (Rows.fnCronEachMinutesSpec.post enc Tryz.prog Tryz.f3 false true false false) := by
  refine returnsInHanded_of_change_and (C := Tryz.checked) (X := fun w _ => laidMetH Tryz.prog Rows.fnCronEachMinutesRow.laid w) (fun _ _ _ hh h => h.of_heap hh) own started (by kernel_rfl) Tryz.func3
    (ChangeSpec.witness_shaped (enc := enc) (C := Tryz.checked) (os := os) (X := fun w _ => laidMetH Tryz.prog Rows.fnCronEachMinutesRow.laid w) false (World.laidAll Tryz.prog os Rows.fnCronEachMinutesRow.laid) #[.int .i64 0, .agg #[.int .i64 0, .int .i64 0]] 8 (World.laidAll_os _ _ _) (World.shaped_of_ZipB (by kernel_rfl) (by kernel_rfl)) (by kernel_rfl) (by kernel_rfl) (by kernel_rfl)
      (by rw [MakeChecks.laidMetH_plain _ _ _ (by kernel_rfl)]; exact laidMet_laidAll _ (by kernel_rfl) (by kernel_rfl))) ?_
  intro W base args ds gs before hval0 hW hcnd hsz0 hL _
  have hval : ∀ (j : Nat) t v, Tryz.f3.params[j]? = some t → args[j]? = some v → Value.okWide Tryz.prog W .any base t v := hval0
  have hW' := hW
  obtain ⟨p, q, hA0, hV, rfl, hfz, hnd⟩ := hW
  have hA : DataW.TrodAll enc Tryz.prog W 0 (fun _ => true) true Tryz.f3.params.toList args.toList ds p := hA0
  rw [Tryz.params3] at hA hval
  obtain ⟨v0, vs0, d0, ds0, p0, q0, hargs, rfl, rfl, h0, r0⟩ := trodAll_cons hA
  obtain ⟨v1, vs1, d1, ds1, p1, q1, rfl, rfl, rfl, h1, r1⟩ := trodAll_cons r0
  obtain ⟨rfl, rfl, rfl⟩ := trodAll_nil r1
  obtain rfl : args = #[v0, v1] := by cases args; simp_all
  obtain ⟨rfl, rfl⟩ := trodVars_none hV
  obtain ⟨a0, rfl, rfl, rfl, w0⟩ := open_int Tryz.underlying3 (hval 0 3 v0 rfl rfl) h0
  have k1 := h1
  have lt1 : ∀ x ∈ p1, x.block < W.heap.size := by obtain ⟨m, hm⟩ := k1; exact DataW.trod_lt m _ _ _ hm
  obtain ⟨l1, n1, rfl, hl1, hg1⟩ := open_aggn Tryz.underlying23 (by kernel_rfl) (by kernel_rfl) (hval 1 23 v1 rfl rfl) h1
  obtain ⟨c1_0, c1_1, rfl⟩ := list_of2 l1 (hl1.trans rfl)
  obtain ⟨_, y1_0, z1_0, g1_0⟩ := hg1 0 _ rfl
  obtain rfl := Option.some.inj z1_0
  obtain ⟨a1_0, e_a1_0, _, w_a1_0⟩ := DataW.trod_int Tryz.underlying2 g1_0
  simp only [List.cons.injEq, and_true] at e_a1_0
  subst e_a1_0
  obtain ⟨_, y1_1, z1_1, g1_1⟩ := hg1 1 _ rfl
  obtain rfl := Option.some.inj z1_1
  obtain ⟨a1_1, e_a1_1, _, w_a1_1⟩ := DataW.trod_int Tryz.underlying3 g1_1
  simp only [List.cons.injEq, and_true] at e_a1_1
  subst e_a1_1
  clear hA0 hval0 hsz0
  refine (fnCronEachMinutes_walk a0 a1_0 a1_1 W w0 w_a1_0 w_a1_1 (vars_tab hL)).mono fun e W' ⟨he, bel⟩ => ?_
  subst he
  exact ⟨_, rfl, _, _, _, [], _, [], hW', trodAll_mk1 (shut_bool Tryz.underlying4 _), (trodAll_cons_mk (shut_int Tryz.underlying3 w0) (trodAll_cons_mk (Below.trod laidOut (by kernel_rfl) (of_decide_eq_true (by kernel_rfl)) k1 bel lt1) trodAll_mk0)), rfl, bel.frame _, fun h => by cases h⟩
theorem over : Rows.fnCronEachMinutesRow.holds Tryz.pinned (OpenSpec.ofChange Rows.fnCronEachMinutesSpec) :=
  OpenClaim.holds_of_wide 3 Tryz.f3 rfl rfl rfl rfl rfl rfl rfl ⟨rfl, rfl, rfl, rfl, rfl⟩ rfl rfl rfl rfl rfl (by kernel_rfl) Tryz.func3 (by kernel_rfl)
    (of_decide_eq_true (by kernel_rfl)) (by unfold Func.isWrapper; first | (rw [if_pos (by decide +kernel)]; kernel_rfl) | (rw [if_neg (by decide +kernel)]; exact ⟨rfl, rfl⟩))
    (fun os started H enc _ => lifted os started H enc)
theorem card : Rows.FnCronEachMinutesCardSaid :=
  Claim7.holds_tied_plain_at .later [] [.data, .data, .data, .data, .sentinel, .sentinel, .sentinel, .sentinel, .pinned] true (true, "4767e015f32a5b2a752618c734a8bb30b19d76b455c0c4bebfb2d2f079a865b2") true
    over (fun _ h => by cases h) (by kernel_rfl) (fun _ h => by cases h) fnCronEachMinutes_row_tie rfl ⟨rfl, rfl⟩ (by kernel_rfl) rfl
    (fun f fn hf hfn => by
      obtain rfl : f = 3 := Option.some.inj ((show Tryz.prog.funcNamed "pub-timebook/laws.FnCronEachMinutes" = some 3 by kernel_rfl).symm.trans hf) |>.symm
      obtain rfl : fn = Tryz.f3 := (Option.some.inj (Tryz.func3.symm.trans hfn)).symm
      refine ⟨by kernel_rfl, fun j t ht => ?_⟩
      rw [Tryz.params3] at ht
      have hall : ∀ t ∈ [3, 23], Tryz.prog.wantsStandIn t = false := by
        intro t h; simp only [List.mem_cons, List.not_mem_nil, or_false] at h
        rcases h with rfl | rfl <;> kernel_rfl
      exact hall t (List.mem_of_getElem? (by simpa [List.getElem?_toArray] using ht)))
    (by kernel_rfl)
end Go.Proofs.YtjbafphoemibaaaGreatDoor.fnCronEachMinutes
namespace Go.Proofs.YtjbafphoemibaaaGreatDoor
theorem fnCronEachMinutes_holds : Rows.FnCronEachMinutesSaid := fnCronEachMinutes.over
#print axioms fnCronEachMinutes_holds
theorem fnCronEachMinutes_card_holds : Rows.FnCronEachMinutesCardSaid := fnCronEachMinutes.card
#print axioms fnCronEachMinutes_card_holds
end Go.Proofs.YtjbafphoemibaaaGreatDoor
