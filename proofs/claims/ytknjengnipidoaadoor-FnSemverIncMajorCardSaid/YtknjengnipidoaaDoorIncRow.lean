import Derived.Test.YtknjengnipidoaaDoorRows
import Derived.Test.YtknjengnipidoaaDoorIncLaw
import Derived.Test.YtknjengnipidoaaDoorLaidT
import Derived.Test.YtknjengnipidoaaDoorTie
import Derived.Test.YtknjengnipidoaaDoorCards
import Derived.Handed
import Derived.Lay
import Derived.MakeChecks
import Derived.SevenTiedAt
import Derived.WalkKit
import Derived.ProofKit
import Derived.OpenShut
import Derived.ShutString
import Derived.ChangeOld
import Derived.Below
import Derived.SizedLaws
import Derived.Deep.Fields
import Derived.Deep.Slices
namespace Go.Proofs.YtknjengnipidoaaDoor.fnSemverIncMajor
open Go.ChangeShapes Go.WideShapes Go.ChangeAt Go.RowKit Go.Deep
open Go.ChangeMaps (open_string shut_string)
set_option linter.unusedVariables false
set_option linter.unusedSimpArgs false
theorem list_of5 (l : List Value) (h : l.length = 5) : ∃ x0 x1 x2 x3 x4, l = [x0, x1, x2, x3, x4] := by
  match l, h with
  | [x0, x1, x2, x3, x4], _ => exact ⟨_, _, _, _, _, rfl⟩
theorem own : ownKnob Tryd.prog.godebug = none := by kernel_rfl
theorem laidOut : laidOutB Tryd.prog = true := by kernel_rfl
set_option maxHeartbeats 3200000 in
set_option maxRecDepth 100000 in
theorem lifted (os : Os) (started : os.Started) (H : Type) (enc : TypeId × Value → H) :
    ReturnsInHanded {} Tryd.checked os 6 .any (fun w args => (Rows.fnSemverIncMajorSpec.pre enc Tryd.prog Tryd.f6 [] false w args ∧ laidMetH Tryd.prog Rows.fnSemverIncMajorRow.laid w) ∧ sizedMet enc Tryd.prog Tryd.f6 (OpenSpec.ofChange Rows.fnSemverIncMajorSpec) false w args) (Rows.fnSemverIncMajorSpec.post enc Tryd.prog Tryd.f6 false true false false) := by
  refine returnsInHanded_of_change_and (C := Tryd.checked) (X := fun w _ => laidMetH Tryd.prog Rows.fnSemverIncMajorRow.laid w) (fun _ _ _ hh h => h.of_heap hh) own started (by kernel_rfl) Tryd.func6
    (ChangeSpec.witness_shaped (enc := enc) (C := Tryd.checked) (os := os) (X := fun w _ => laidMetH Tryd.prog Rows.fnSemverIncMajorRow.laid w) false (World.laidAll Tryd.prog os Rows.fnSemverIncMajorRow.laid) #[.agg #[.int .u64 0, .int .u64 0, .int .u64 0, .string ByteArray.empty, .string ByteArray.empty]] 8 (World.laidAll_os _ _ _) (World.shaped_of_ZipB (by kernel_rfl) (by kernel_rfl)) (by kernel_rfl) (by kernel_rfl) (by kernel_rfl)
      (by rw [MakeChecks.laidMetH_plain _ _ _ (by kernel_rfl)]; exact laidMet_laidAll _ (by kernel_rfl) (by kernel_rfl))) ?_
  intro W base args ds gs before hval0 hW hcnd hsz0 hL _
  have hval : ∀ (j : Nat) t v, Tryd.f6.params[j]? = some t → args[j]? = some v → Value.okWide Tryd.prog W .any base t v := hval0
  have hW' := hW
  obtain ⟨p, q, hA0, hV, rfl, hfz, hnd⟩ := hW
  have hA : DataW.TrodAll enc Tryd.prog W 0 (fun _ => true) true Tryd.f6.params.toList args.toList ds p := hA0
  rw [Tryd.params6] at hA hval
  obtain ⟨v0, vs0, d0, ds0, p0, q0, hargs, rfl, rfl, h0, r0⟩ := trodAll_cons hA
  obtain ⟨rfl, rfl, rfl⟩ := trodAll_nil r0
  obtain rfl : args = #[v0] := by cases args; simp_all
  obtain ⟨rfl, rfl⟩ := trodVars_none hV
  have k0 := h0
  have lt0 : ∀ x ∈ p0, x.block < W.heap.size := by obtain ⟨m, hm⟩ := k0; exact DataW.trod_lt m _ _ _ hm
  obtain ⟨l0, n0, rfl, hl0, hg0⟩ := open_aggn Tryd.underlying27 (by kernel_rfl) (by kernel_rfl) (hval 0 27 v0 rfl rfl) h0
  obtain ⟨c0_0, c0_1, c0_2, c0_3, c0_4, rfl⟩ := list_of5 l0 (hl0.trans rfl)
  obtain ⟨_, y0_0, z0_0, g0_0⟩ := hg0 0 _ rfl
  obtain rfl := Option.some.inj z0_0
  obtain ⟨a0_0, e_a0_0, _, w_a0_0⟩ := DataW.trod_int Tryd.underlying25 g0_0
  simp only [List.cons.injEq, and_true] at e_a0_0
  subst e_a0_0
  obtain ⟨_, y0_1, z0_1, g0_1⟩ := hg0 1 _ rfl
  obtain rfl := Option.some.inj z0_1
  obtain ⟨a0_1, e_a0_1, _, w_a0_1⟩ := DataW.trod_int Tryd.underlying25 g0_1
  simp only [List.cons.injEq, and_true] at e_a0_1
  subst e_a0_1
  obtain ⟨_, y0_2, z0_2, g0_2⟩ := hg0 2 _ rfl
  obtain rfl := Option.some.inj z0_2
  obtain ⟨a0_2, e_a0_2, _, w_a0_2⟩ := DataW.trod_int Tryd.underlying25 g0_2
  simp only [List.cons.injEq, and_true] at e_a0_2
  subst e_a0_2
  obtain ⟨_, y0_3, z0_3, g0_3⟩ := hg0 3 _ rfl
  obtain rfl := Option.some.inj z0_3
  obtain ⟨a0_3, e_a0_3, _, w_a0_3⟩ := DataW.trod_string Tryd.underlying9 g0_3
  simp only [List.cons.injEq, and_true] at e_a0_3
  subst e_a0_3
  obtain ⟨_, y0_4, z0_4, g0_4⟩ := hg0 4 _ rfl
  obtain rfl := Option.some.inj z0_4
  obtain ⟨a0_4, e_a0_4, _, w_a0_4⟩ := DataW.trod_string Tryd.underlying9 g0_4
  simp only [List.cons.injEq, and_true] at e_a0_4
  subst e_a0_4
  clear hA0 hval0 hsz0
  refine (fnSemverIncMajor_walk a0_0 a0_1 a0_2 a0_3 a0_4 W w_a0_0 w_a0_1 w_a0_2 w_a0_3 w_a0_4 (vars_tab hL)).mono fun e W' ⟨he, bel⟩ => ?_
  subst he
  exact ⟨_, rfl, _, _, _, [], _, [], hW', trodAll_mk1 (shut_bool Tryd.underlying4 _), (trodAll_cons_mk (Below.trod laidOut (by kernel_rfl) (of_decide_eq_true (by kernel_rfl)) k0 bel lt0) trodAll_mk0), rfl, bel.frame _, fun h => by cases h⟩
theorem over : Rows.fnSemverIncMajorRow.holds Tryd.pinned (OpenSpec.ofChange Rows.fnSemverIncMajorSpec) :=
  OpenClaim.holds_of_wide 6 Tryd.f6 rfl rfl rfl rfl rfl rfl rfl ⟨rfl, rfl, rfl, rfl, rfl⟩ rfl rfl rfl rfl rfl (by kernel_rfl) Tryd.func6 (by kernel_rfl)
    (of_decide_eq_true (by kernel_rfl)) (by unfold Func.isWrapper; first | (rw [if_pos (by decide +kernel)]; kernel_rfl) | (rw [if_neg (by decide +kernel)]; exact ⟨rfl, rfl⟩))
    (fun os started H enc _ => lifted os started H enc)
theorem card : Rows.FnSemverIncMajorCardSaid :=
  Claim7.holds_tied_plain_at .later [] [.data, .data, .data] true (true, "84a83f41671c245af29d00bf7696102d4eeb8511ab03375a25ca48595154c3a1") false
    over (fun _ h => by cases h) (by kernel_rfl) (fun _ h => by cases h) fnSemverIncMajor_row_tie rfl ⟨rfl, rfl⟩ (by kernel_rfl) rfl
    (fun f fn hf hfn => by
      obtain rfl : f = 6 := Option.some.inj ((show Tryd.prog.funcNamed "pub-timebook/laws.FnSemverIncMajor" = some 6 by kernel_rfl).symm.trans hf) |>.symm
      obtain rfl : fn = Tryd.f6 := (Option.some.inj (Tryd.func6.symm.trans hfn)).symm
      refine ⟨by kernel_rfl, fun j t ht => ?_⟩
      rw [Tryd.params6] at ht
      have hall : ∀ t ∈ [27], Tryd.prog.wantsStandIn t = false := by
        intro t h; simp only [List.mem_cons, List.not_mem_nil, or_false] at h
        subst h; kernel_rfl
      exact hall t (List.mem_of_getElem? (by simpa [List.getElem?_toArray] using ht)))
    (by kernel_rfl)
end Go.Proofs.YtknjengnipidoaaDoor.fnSemverIncMajor
namespace Go.Proofs.YtknjengnipidoaaDoor
theorem fnSemverIncMajor_holds : Rows.FnSemverIncMajorSaid := fnSemverIncMajor.over
#print axioms fnSemverIncMajor_holds
theorem fnSemverIncMajor_card_holds : Rows.FnSemverIncMajorCardSaid := fnSemverIncMajor.card
#print axioms fnSemverIncMajor_card_holds
end Go.Proofs.YtknjengnipidoaaDoor
