/- spec.After, walked. -/
import Derived.Test.YtmlbjcdildaldaaDoorAfter
import Derived.Laws.ResultCell
set_option linter.unusedVariables false
set_option linter.unusedSimpArgs false
namespace Go.Proofs.YtmlbjcdildaldaaDoor
open Go.RowKit

set_option maxRecDepth 100000 in
theorem after_pre (a b c : Int) (p m : ByteArray) (w : World) (h : p.toList.isEmpty = false) (hs : p.size ≤ 2147483647) : Calls Tryd.prog 21 #[.agg (scells a b c p m)] w fun e w' =>
    e = .returned (.tuple #[.agg (scells a b c (p ++ dotZero) ByteArray.empty), .bool true]) ∧ Below w.heap.size w w' := by
  go_enter Tryd.func21, Tryd.ntmps21
  go_wp2_with fail
  go_returns
  exact ⟨rfl, by go_grown⟩
section
variable {P : Program}
theorem results_cell_and {fn : Func} {p u : Tmp} {ty : TypeId} (h : fn.results = #[.cell p ty, .tmp u]) (tmps : Array Value) (w : World) (g : Nat) (t : TypeId) (cs : Array Value) (fr : Nat × Nat) (d : TypeDesc)
    (hp : tmps.getD p undef = .pointer (some ⟨g, 0, none⟩)) (hg : w.heap[g]? = some (.cells cs t fr))
    (hu : P.underlying ty = some d) (hd : (match d with | .struct _ | .array _ _ => true | _ => false) = true) (hi : (P.info? ty).map (·.size) = some cs.size) :
    (results fn tmps).run P w = .ok (.tuple #[.agg cs, tmps.getD u undef]) w := by
  have hp' : tmps[p]?.getD undef = .pointer (some ⟨g, 0, none⟩) := by simpa using hp
  simp [results, h, hp', asAddr, run_loadVar_row w g t ty cs fr d hg hu hd hi]
end

set_option maxRecDepth 100000 in
theorem after_rel (a b c : Int) (p m : ByteArray) (a2 b2 c2 : Int) (ok : Bool) (w : World) (h : p.toList.isEmpty = true)
    (hc : ∀ W, Calls Tryd.prog 61 #[.agg (scells a b c p ByteArray.empty), .int .i64 3] W fun e w' => e = .returned (.tuple #[.agg (scells a2 b2 c2 ByteArray.empty ByteArray.empty), .bool ok]) ∧ Below W.heap.size W w') :
    Calls Tryd.prog 21 #[.agg (scells a b c p m)] w fun e w' =>
    e = .returned (.tuple #[.agg (scells a2 b2 c2 zeroP ByteArray.empty), .bool ok]) ∧ Below w.heap.size w w' := by
  have HK := hid hc
  clear hc
  have B1 : Blk ((w.alloc (.cells (scells a b c p ByteArray.empty) 27)).alloc (.cells (scells 0 0 0 ByteArray.empty ByteArray.empty) 27)) (w.heap.size + 1) 27 (scells 0 0 0 ByteArray.empty ByteArray.empty) := by
    have := Blk.new (w.alloc (.cells (scells a b c p ByteArray.empty) 27)) 27 (scells 0 0 0 ByteArray.empty ByteArray.empty)
    rwa [World.size_alloc] at this
  have HB1 := hid B1
  have hbw : Below w.heap.size w ((w.alloc (.cells (scells a b c p ByteArray.empty) 27)).alloc (.cells (scells 0 0 0 ByteArray.empty ByteArray.empty) 27)) := by go_grown
  have HW := hid hbw
  clear B1 hbw
  go_enter Tryd.func21, Tryd.ntmps21
  go_wp2_with fail
  go_at_call 61
  refine (HK.out _).mono ?_
  rintro e w1 ⟨rfl, hb⟩
  have C1 := hid (HB1.out.below hb)
  have HC := hid (ba HW.out hb)
  clear hb
  go_wp2_with fail
  go_at_call 62
  refine (first_any a2 b2 c2 ByteArray.empty ByteArray.empty _).mono ?_
  rintro e w2 ⟨rfl, hb⟩
  have D1 := hid ((C1.out.alloc (.cells (scells a2 b2 c2 ByteArray.empty ByteArray.empty) 27)).below hb)
  have HD := hid (ba (HC.out.alloc HC.out.size _) hb)
  have t2 : w2.there (w.heap.size + 1) 0 5 := there_blk D1.out 5 (Nat.le_refl 5)
  have F1 := hid (setCells_blk D1.out rfl a2 b2 c2 zeroP ByteArray.empty)
  have HF := hid (setCells_below HD.out (Nat.le_succ _) a2 b2 c2 zeroP ByteArray.empty)
  clear hb
  simp only []
  rename_i hK
  apply hK
  refine wpList_plain rfl fun K3 hK3 => ?_
  go_simp
  apply hK3
  refine wpList_store_mid rfl 27 (.tmp 2) (.tmp 21) rfl (w.heap.size + 1) 0 (scells a2 b2 c2 zeroP ByteArray.empty) (by rfl) (by rfl) t2 (by kernel_rfl) (by simp [Value.oneCell']) ?_
  refine wpList_plain rfl fun K4 hK4 => ?_
  generalize w2.setCells (w.heap.size + 1) 0 (scells a2 b2 c2 zeroP ByteArray.empty).toList = w4 at *
  go_simp
  apply hK4
  refine wpList_nil ?_
  rename_i Ka hKa Kb
  refine hKa _ _ ?_
  go_wp2_with fail
  refine bodyPost_ret (results_cell_and rfl _ _ (w.heap.size + 1) 27 _ (0, 0) _ rfl F1.out Tryd.underlying27 rfl (by kernel_rfl)) rfl ⟨rfl, HF.out⟩
end Go.Proofs.YtmlbjcdildaldaaDoor
