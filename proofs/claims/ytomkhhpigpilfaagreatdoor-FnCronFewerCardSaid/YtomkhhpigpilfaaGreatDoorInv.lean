/- A region that asks the tape, by an invariant: whatever order its operations come in, a fact over what has come up, the frame and the world that each of them hands on. -/
import Derived.Test.YtomkhhpigpilfaaGreatDoorKit
import Derived.Orders
set_option linter.unusedVariables false
set_option linter.unusedSimpArgs false
namespace Go.Proofs.YtomkhhpigpilfaaGreatDoor
open Go.RowKit

section
variable {P : Program} {ops : Array Oper} {Q : Exit → Act → World → Prop}

theorem cnt_set : ∀ (l : List Bool) (i : Nat), l[i]? = some false → (l.set i true).count false + 1 = l.count false
  | [], i, h => by simp at h
  | b :: l, 0, h => by
    simp at h
    subst h
    simp [List.count_cons]
  | b :: l, i + 1, h => by
    simp at h
    have := cnt_set l i h
    simp only [List.set_cons_succ, List.count_cons]
    omega

theorem upon_then {o : Oper} {a : Act} {K : Act → World → Prop} (r : Result Next) (h : o.upon P a K (Exit.then K Q) r) : o.upon P a K Q r := by
  cases r with
  | ok n w' =>
    cases n <;> simp only [Oper.upon] at h ⊢ <;> first | exact h | exact Calls.mono h (fun e w'' he => by cases e <;> exact he)
  | halt x w' => cases x <;> simp only [Oper.upon] at h ⊢ <;> exact h

theorem wpOp_of_list {i : Nat} {o : Oper} {a : Act} {w : World} {K : Act → World → Prop} (ho : ops[i]? = some o) (h : wpList P ops (Exit.then K Q) [o] a w) : wpOp P ops Q i K a w := by
  unfold wpOp
  simp only [ho]
  unfold wpList at h
  by_cases hw : Region.wanted o (yielded ops a.tmps) = true
  · simp only [hw, if_true] at h ⊢
    refine h.imp (fun h => ?_) (fun h => ⟨h.1, h.2⟩)
    unfold Oper.wp at h ⊢
    exact upon_then _ h
  · simp only [hw] at h ⊢
    exact h

theorem any_of_inv (J : Array Bool → Act → World → Prop) (hac : ∀ (i : Nat) (o : Oper), ops[i]? = some o → ∀ e ∈ o.after, Region.binds .any e = true → e.on < i)
    (hs : ∀ got a w i o, J got a w → got.size = ops.size → ops[i]? = some o → got[i]? = some false → (∀ e ∈ o.after, Region.binds .any e = true → got.getD e.on false = true) → wpList P ops (Exit.then (J (got.setIfInBounds i true)) Q) [o] a w)
    (hend : ∀ got a w, J got a w → (∀ i, i < ops.size → got.getD i false = true) → Q .normal a w) :
    ∀ (f : Nat) (got : Array Bool) (a : Act) (w : World), got.size = ops.size → got.toList.count false = f → J got a w → wpAny P .any ops Q f got a w := by
  have done : ∀ (got : Array Bool), got.size = ops.size → Region.ready .any ops got = [] → ∀ i, i < ops.size → got.getD i false = true := by
    intro got hz hr i
    induction i using Nat.strongRecOn with
    | _ i ih =>
      intro hi
      cases hb : got.getD i false
      · exfalso
        have hg : got[i]? = some false := by
          have : i < got.size := by omega
          rw [Array.getD_eq_getD_getElem?] at hb
          rw [Array.getElem?_eq_getElem this] at hb ⊢
          simpa using hb
        have ho : ops[i]? = some ops[i] := Array.getElem?_eq_getElem hi
        have : i ∈ Region.ready .any ops got := mem_ready.2 ⟨by rw [Array.getD_eq_getD_getElem?, hg]; rfl, _, ho, fun e he hbd => ih e.on (hac i _ ho e he hbd) (Nat.lt_trans (hac i _ ho e he hbd) hi)⟩
        rw [hr] at this
        cases this
      · rfl
  intro f
  induction f with
  | zero =>
    intro got a w hz hc hJ
    have hr : Region.ready .any ops got = [] := by
      apply List.eq_nil_iff_forall_not_mem.2
      intro j hj
      obtain ⟨h0, o, ho, _⟩ := mem_ready.1 hj
      have hjs : j < got.size := by rw [hz]; exact (Array.getElem?_eq_some_iff.1 ho).1
      have : false ∈ got.toList := by
        rw [Array.getD_eq_getD_getElem?, Array.getElem?_eq_getElem hjs] at h0
        simp at h0
        rw [← h0]
        simp
      have := List.count_pos_iff.2 this
      omega
    exact ⟨hr, hend got a w hJ (done got hz hr)⟩
  | succ f ih =>
    intro got a w hz hc hJ
    refine ⟨fun hr => hend got a w hJ (done got hz hr), fun i hi => ?_⟩
    obtain ⟨h0, o, ho, hd⟩ := mem_ready.1 hi
    have his : i < got.size := by rw [hz]; exact (Array.getElem?_eq_some_iff.1 ho).1
    have hg : got[i]? = some false := by
      rw [Array.getD_eq_getD_getElem?, Array.getElem?_eq_getElem his] at h0
      rw [Array.getElem?_eq_getElem his]
      simpa using h0
    refine wpOp_mono (fun a' w' hJ' => ih _ a' w' (by simpa using hz) ?_ hJ') (wpOp_of_list ho (hs got a w i o hJ hz ho hg hd))
    have := cnt_set got.toList i (by simpa using hg)
    rw [Array.toList_setIfInBounds]
    omega

theorem wp_region_inv {id : Nat} {a : Act} {w : World} {l : List Oper} (J : Act → World → Array Bool → Act → World → Prop) (hm : P.follows .mixedOrders = true)
    (hac : (List.range l.length).all (fun i => match l[i]? with | some o => o.after.all (fun e => !(Region.binds .any e) || decide (e.on < i)) | none => true) = true)
    (h0 : J a w (Array.replicate l.length false) a { w with drawn := w.drawn + 1 })
    (hs : ∀ got a' w' i o, J a w got a' w' → got.size = l.length → l[i]? = some o → got[i]? = some false → (∀ e ∈ o.after, Region.binds .any e = true → got.getD e.on false = true) → wpList P l.toArray (Exit.then (J a w (got.setIfInBounds i true)) Q) [o] a' w')
    (hend : ∀ got a' w', J a w got a' w' → (∀ i, i < l.length → got.getD i false = true) → Q .normal a' w') : (Code.region id l.toArray true).wp P Q a w := by
  refine wp_region_any hm ?_
  refine any_of_inv (J a w) ?_ (fun got a' w' i o h1 h2 h3 => hs got a' w' i o h1 (by simpa using h2) (by simpa using h3)) (fun got a' w' h1 h2 => hend got a' w' h1 (by simpa using h2)) _ _ _ _ (by simp) ?_ (by simpa using h0)
  · intro i o ho e he hbd
    rw [List.all_eq_true] at hac
    have ho' : l[i]? = some o := by simpa using ho
    have hi : i < l.length := (List.getElem?_eq_some_iff.1 ho').1
    have := hac i (List.mem_range.2 hi)
    rw [ho'] at this
    simp only [Array.all_eq_true_iff_forall_mem] at this
    have h2 := this e he
    rw [hbd] at h2
    exact of_decide_eq_true h2
  · simp

theorem got_ne {got : Array Bool} {i j : Nat} (h : i ≠ j) : (got.setIfInBounds i true).getD j false = got.getD j false := by
  simp [Array.getD_eq_getD_getElem?, Array.getElem?_setIfInBounds, h]
end
end Go.Proofs.YtomkhhpigpilfaaGreatDoor
