import Derived.Test.YtkohcmgckkenpaaDoorRows
import Derived.Test.YtkohcmgckkenpaaDoorAgrP
import Derived.Test.YtkohcmgckkenpaaDoorLaid
import Derived.Test.YtkohcmgckkenpaaDoorTie
import Derived.Test.YtkohcmgckkenpaaDoorCards
import Derived.Handed
import Derived.Lay
import Derived.MakeChecks
import Derived.SevenTiedAt
import Derived.WalkKit
import Derived.ProofKit
import Derived.OpenShut
import Derived.ShutString
import Derived.ChangeOld
import Derived.Below
import Derived.SizedLaws
import Derived.Deep.Fields
import Derived.Deep.Slices
namespace Go.Proofs.YtkohcmgckkenpaaDoor.fnSemverAgree
open Go.ChangeShapes Go.WideShapes Go.ChangeAt Go.RowKit Go.Deep
open Go.ChangeMaps (open_string shut_string)
set_option linter.unusedVariables false
set_option linter.unusedSimpArgs false
theorem list_of5 (l : List Value) (h : l.length = 5) : ∃ x0 x1 x2 x3 x4, l = [x0, x1, x2, x3, x4] := by
  match l, h with
  | [x0, x1, x2, x3, x4], _ => exact ⟨_, _, _, _, _, rfl⟩
theorem own : ownKnob Tryd.prog.godebug = none := by kernel_rfl
theorem laidOut : laidOutB Tryd.prog = true := by kernel_rfl
set_option maxHeartbeats 3200000 in
set_option maxRecDepth 100000 in
theorem lifted (os : Os) (started : os.Started) (H : Type) (enc : TypeId × Value → H) :
    ReturnsInHanded {} Tryd.checked os 4 .any (fun w args => (Rows.fnSemverAgreeSpec.pre enc Tryd.prog Tryd.f4 [] false w args ∧ laidMetH Tryd.prog Rows.fnSemverAgreeRow.laid w) ∧ sizedMet enc Tryd.prog Tryd.f4 (OpenSpec.ofChange Rows.fnSemverAgreeSpec) false w args) (Rows.fnSemverAgreeSpec.post enc Tryd.prog Tryd.f4 false true false false) := by
  refine returnsInHanded_of_change_and (C := Tryd.checked) (X := fun w _ => laidMetH Tryd.prog Rows.fnSemverAgreeRow.laid w) (fun _ _ _ hh h => h.of_heap hh) own started (by kernel_rfl) Tryd.func4
    (ChangeSpec.witness_shaped (enc := enc) (C := Tryd.checked) (os := os) (X := fun w _ => laidMetH Tryd.prog Rows.fnSemverAgreeRow.laid w) false (World.laidAll Tryd.prog os Rows.fnSemverAgreeRow.laid) #[.slice none 0 0, .slice none 0 0, .agg #[.int .u64 0, .int .u64 0, .int .u64 0, .string ByteArray.empty, .string ByteArray.empty]] 8 (World.laidAll_os _ _ _) (World.shaped_of_ZipB (by kernel_rfl) (by kernel_rfl)) (by kernel_rfl) (by kernel_rfl) (by kernel_rfl)
      (by rw [MakeChecks.laidMetH_plain _ _ _ (by kernel_rfl)]; exact laidMet_laidAll _ (by kernel_rfl) (by kernel_rfl))) ?_
  intro W base args ds gs before hval0 hW hcnd hsz0 hL _
  have hval : ∀ (j : Nat) t v, Tryd.f4.params[j]? = some t → args[j]? = some v → Value.okWide Tryd.prog W .any base t v := hval0
  have hW' := hW
  obtain ⟨p, q, hA0, hV, rfl, hfz, hnd⟩ := hW
  have hA : DataW.TrodAll enc Tryd.prog W 0 (fun _ => true) true Tryd.f4.params.toList args.toList ds p := hA0
  rw [Tryd.params4] at hA hval
  obtain ⟨v0, vs0, d0, ds0, p0, q0, hargs, rfl, rfl, h0, r0⟩ := trodAll_cons hA
  obtain ⟨v1, vs1, d1, ds1, p1, q1, rfl, rfl, rfl, h1, r1⟩ := trodAll_cons r0
  obtain ⟨v2, vs2, d2, ds2, p2, q2, rfl, rfl, rfl, h2, r2⟩ := trodAll_cons r1
  obtain ⟨rfl, rfl, rfl⟩ := trodAll_nil r2
  obtain rfl : args = #[v0, v1, v2] := by cases args; simp_all
  obtain ⟨rfl, rfl⟩ := trodVars_none hV
  have k0 := h0
  have lt0 : ∀ x ∈ p0, x.block < W.heap.size := by obtain ⟨m, hm⟩ := k0; exact DataW.trod_lt m _ _ _ hm
  obtain ⟨ao0, ls0, cp0, rfl, sl0⟩ := open_ll (hval 0 22 v0 rfl rfl) h0
  have k1 := h1
  have lt1 : ∀ x ∈ p1, x.block < W.heap.size := by obtain ⟨m, hm⟩ := k1; exact DataW.trod_lt m _ _ _ hm
  obtain ⟨ao1, ls1, cp1, rfl, sl1⟩ := open_ll (hval 1 22 v1 rfl rfl) h1
  have k2 := h2
  have lt2 : ∀ x ∈ p2, x.block < W.heap.size := by obtain ⟨m, hm⟩ := k2; exact DataW.trod_lt m _ _ _ hm
  obtain ⟨l2, n2, rfl, hl2, hg2⟩ := open_aggn Tryd.underlying25 (by kernel_rfl) (by kernel_rfl) (hval 2 25 v2 rfl rfl) h2
  obtain ⟨c2_0, c2_1, c2_2, c2_3, c2_4, rfl⟩ := list_of5 l2 (hl2.trans rfl)
  obtain ⟨_, y2_0, z2_0, g2_0⟩ := hg2 0 _ rfl
  obtain rfl := Option.some.inj z2_0
  obtain ⟨a2_0, e_a2_0, _, w_a2_0⟩ := DataW.trod_int Tryd.underlying23 g2_0
  simp only [List.cons.injEq, and_true] at e_a2_0
  subst e_a2_0
  obtain ⟨_, y2_1, z2_1, g2_1⟩ := hg2 1 _ rfl
  obtain rfl := Option.some.inj z2_1
  obtain ⟨a2_1, e_a2_1, _, w_a2_1⟩ := DataW.trod_int Tryd.underlying23 g2_1
  simp only [List.cons.injEq, and_true] at e_a2_1
  subst e_a2_1
  obtain ⟨_, y2_2, z2_2, g2_2⟩ := hg2 2 _ rfl
  obtain rfl := Option.some.inj z2_2
  obtain ⟨a2_2, e_a2_2, _, w_a2_2⟩ := DataW.trod_int Tryd.underlying23 g2_2
  simp only [List.cons.injEq, and_true] at e_a2_2
  subst e_a2_2
  obtain ⟨_, y2_3, z2_3, g2_3⟩ := hg2 3 _ rfl
  obtain rfl := Option.some.inj z2_3
  obtain ⟨a2_3, e_a2_3, _, w_a2_3⟩ := DataW.trod_string Tryd.underlying9 g2_3
  simp only [List.cons.injEq, and_true] at e_a2_3
  subst e_a2_3
  obtain ⟨_, y2_4, z2_4, g2_4⟩ := hg2 4 _ rfl
  obtain rfl := Option.some.inj z2_4
  obtain ⟨a2_4, e_a2_4, _, w_a2_4⟩ := DataW.trod_string Tryd.underlying9 g2_4
  simp only [List.cons.injEq, and_true] at e_a2_4
  subst e_a2_4
  clear hA0 hval0 hsz0
  refine (fnSemverAgree_walk ao0 ls0 cp0 ao1 ls1 cp1 a2_0 a2_1 a2_2 a2_3 a2_4 W sl0 sl1 w_a2_0 w_a2_1 w_a2_2 w_a2_3 w_a2_4 (vars_agree hL)).mono fun e W' ⟨he, bel⟩ => ?_
  subst he
  exact ⟨_, rfl, _, _, _, [], _, [], hW', trodAll_mk1 (shut_bool Tryd.underlying4 _), (trodAll_cons_mk (Below.trod laidOut (by kernel_rfl) (of_decide_eq_true (by kernel_rfl)) k0 bel lt0) (trodAll_cons_mk (Below.trod laidOut (by kernel_rfl) (of_decide_eq_true (by kernel_rfl)) k1 bel lt1) (trodAll_cons_mk (Below.trod laidOut (by kernel_rfl) (of_decide_eq_true (by kernel_rfl)) k2 bel lt2) trodAll_mk0))), rfl, bel.frame _, fun h => by cases h⟩
theorem over : Rows.fnSemverAgreeRow.holds Tryd.pinned (OpenSpec.ofChange Rows.fnSemverAgreeSpec) :=
  OpenClaim.holds_of_wide 4 Tryd.f4 rfl rfl rfl rfl rfl rfl rfl ⟨rfl, rfl, rfl, rfl, rfl⟩ rfl rfl rfl rfl rfl (by kernel_rfl) Tryd.func4 (by kernel_rfl)
    (of_decide_eq_true (by kernel_rfl)) (by unfold Func.isWrapper; first | (rw [if_pos (by decide +kernel)]; kernel_rfl) | (rw [if_neg (by decide +kernel)]; exact ⟨rfl, rfl⟩))
    (fun os started H enc _ => lifted os started H enc)
theorem card : Rows.FnSemverAgreeCardSaid :=
  Claim7.holds_tied_plain_at .later [] [.data, .data, .data, .sentinel, .sentinel] true (true, "62dc3dbabaef9956064b9db266c9659740937ae67fbb3bb6089d25638d429377") true
    over (fun _ h => by cases h) (by kernel_rfl) (fun _ h => by cases h) fnSemverAgree_row_tie rfl ⟨rfl, rfl⟩ (by kernel_rfl) rfl
    (fun f fn hf hfn => by
      obtain rfl : f = 4 := Option.some.inj ((show Tryd.prog.funcNamed "pub-timebook/laws.FnSemverAgree" = some 4 by kernel_rfl).symm.trans hf) |>.symm
      obtain rfl : fn = Tryd.f4 := (Option.some.inj (Tryd.func4.symm.trans hfn)).symm
      refine ⟨by kernel_rfl, fun j t ht => ?_⟩
      rw [Tryd.params4] at ht
      have hall : ∀ t ∈ [22, 22, 25], Tryd.prog.wantsStandIn t = false := by
        intro t h; simp only [List.mem_cons, List.not_mem_nil, or_false] at h
        rcases h with rfl | rfl | rfl <;> kernel_rfl
      exact hall t (List.mem_of_getElem? (by simpa [List.getElem?_toArray] using ht)))
    (by kernel_rfl)
end Go.Proofs.YtkohcmgckkenpaaDoor.fnSemverAgree
namespace Go.Proofs.YtkohcmgckkenpaaDoor
theorem fnSemverAgree_holds : Rows.FnSemverAgreeSaid := fnSemverAgree.over
#print axioms fnSemverAgree_holds
theorem fnSemverAgree_card_holds : Rows.FnSemverAgreeCardSaid := fnSemverAgree.card
#print axioms fnSemverAgree_card_holds
end Go.Proofs.YtkohcmgckkenpaaDoor
