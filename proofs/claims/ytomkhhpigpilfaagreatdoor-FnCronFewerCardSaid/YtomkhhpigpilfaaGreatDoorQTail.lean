/- A region that asks the tape: its head reads and calls quietly, its tail (the last few operations, one forced order) may write. One walk in the text's order serves every order. Over the library's laws on quiet heads and on tails. -/
import Derived.Test.YtomkhhpigpilfaaGreatDoorGrow
import Derived.StillTail
import Derived.Deep.Quiet
set_option linter.unusedVariables false
set_option linter.unusedSimpArgs false
namespace Go.Proofs.YtomkhhpigpilfaaGreatDoor
open Go.RowKit
open Go.Sort (grow grow_empty)

section
variable {P : Program} {ops : Array Oper} {md : Region.Mode} {C : World → Prop}

/-- Whatever order the head's operations (numbers below n) come in. -/
def headQ (P : Program) (md : Region.Mode) (ops : Array Oper) (C : World → Prop) (n : Nat) (L : Array Bool → Act → Prop) : Nat → Array Bool → Act → Prop
  | 0, got, a => L got a
  | f + 1, got, a => Region.ready md ops got ≠ [] ∧ ∀ i ∈ Region.ready md ops got, i < n ∧ qOp P ops C i (headQ P md ops C n L f (got.setIfInBounds i true)) a

theorem any_of_headQ {n g : Nat} {L : Array Bool → Act → Prop} {Q : Exit → Act → World → Prop} (hL : ∀ got a w, C w → L got a → wpAny P md ops Q g got a w) :
    ∀ (f : Nat) (got : Array Bool) (a : Act) (w : World), C w → headQ P md ops C n L f got a → wpAny P md ops Q (f + g) got a w
  | 0, got, a, w, hw, h => by rw [Nat.zero_add]; exact hL _ _ _ hw h
  | f + 1, got, a, w, hw, h => by
    rw [Nat.add_right_comm f 1 g]
    exact ⟨fun e => absurd e h.1, fun i hi => wpOp_of_qOp hw (fun a' w' hw' h' => any_of_headQ hL f _ a' w' hw' h') (h.2 i hi).2⟩

theorem headQ_take {n i : Nat} {oi : Oper} {v : Value} {L : Array Bool → Act → Prop} (hi : ops[i]? = some oi) (hsel : ∀ (j : Nat) (o : Oper) cs b, ops[j]? = some o → o.op ≠ .select cs b)
    (hs : Region.sinkB md ops n = true) (hc : Region.chainB md ops n = true) (hn : n < ops.size) (hin : i < n) (hend : ∀ got a, L got a → ∀ j ∈ Region.ready md ops got, n ≤ j) :
    ∀ (f : Nat) (got : Array Bool) (a : Act), HeadInv md ops n got →
      (∀ j oj, ops[j]? = some oj → j ≠ i → got.getD j true = false → (∀ e ∈ oj.after, Region.binds md e = true → e.on ≠ i) → oi.apart ops oj = true) →
      i ∈ Region.ready md ops got → YieldsIn P ops C oi v a → headQ P md ops C n L f (got.setIfInBounds i true) (a.put oi.dst v) → headQ P md ops C n L (f + 1) got a := by
  intro f
  induction f with
  | zero =>
    intro got a inv _ hr hy H
    have hun := (mem_ready.1 hr).1
    refine ⟨fun h => (by rw [h] at hr; cases hr), fun j hj => ?_⟩
    have hjn : j < n := (Nat.lt_or_ge j n).elim id fun h => absurd hj (tail_waits hs hc hn inv _ i rfl hin hun j h)
    refine ⟨hjn, ?_⟩
    by_cases hji : j = i
    · subst hji; exact hy.qOp hi H
    · have := hend _ _ H j (ready_mono hj hji)
      omega
  | succ f ih =>
    intro got a inv hfree hr hy H
    have hun := (mem_ready.1 hr).1
    refine ⟨fun h => (by rw [h] at hr; cases hr), fun j hj => ?_⟩
    have hjn : j < n := (Nat.lt_or_ge j n).elim id fun h => absurd hj (tail_waits hs hc hn inv _ i rfl hin hun j h)
    refine ⟨hjn, ?_⟩
    by_cases hji : j = i
    · subst hji; exact hy.qOp hi H
    · obtain ⟨hjun, oj, hoj, hall⟩ := mem_ready.1 hj
      have hnot : ∀ e ∈ oj.after, Region.binds md e = true → e.on ≠ i := fun e he hb heq => by
        have h1 := hall e he hb
        rw [heq, getD_both hun] at h1
        cases h1
      have h2 := qOp_put hoj (hfree j oj hoj hji hjun hnot) (fun cs b => hsel i oi cs b hi) (fun cs b => hsel j oj cs b hoj) hy (H.2 j (ready_mono hj hji)).2
      refine qOp_mono (fun a' h3 => ih (got.setIfInBounds j true) a' (inv.set hj hjn) (fun k ok hk hki hk2 hno => hfree k ok hk hki ?_ hno) (ready_mono hr (Ne.symm hji)) h3.1 ?_) h2
      · by_cases hjk : j = k
        · subst hjk; exact hjun
        · rw [getD_set_ne true hjk] at hk2; exact hk2
      · rw [Array.setIfInBounds_comm _ _ hji]
        exact h3.2

theorem headQ_text {n g : Nat} {Lq : Act → Prop} (hsel : Region.noSelect ops = true) (hs : Region.sinkB md ops n = true) (hc : Region.chainB md ops n = true) (hn : n < ops.size) :
    ∀ (l : List Oper) (k : Nat) (got : Array Bool) (a : Act), (∀ j, j < l.length → l[j]? = ops[k + j]?) → k + l.length = n → HeadInv md ops n got →
    Region.lexHead md ops g l.length k got = true → wpQuiet P ops C Lq l a → headQ P md ops C n (fun got' a' => Region.seqB md ops g n got' = true ∧ Lq a') l.length got a
  | [], k, got, a, _, hk, _, hB, h => by
    have : k = n := by simpa using hk
    subst this
    exact ⟨by simpa [Region.lexHead] using hB, h⟩
  | o :: l, k, got, a, hl, hk, inv, hB, h => by
    have h0 : ops[k]? = some o := by simpa using (hl 0 (by simp)).symm
    simp only [List.length_cons, Region.lexHead, Bool.and_eq_true] at hB
    obtain ⟨⟨hr, hf⟩, hB'⟩ := hB
    have hkn : k < n := by simp only [List.length_cons] at hk; omega
    have hr' : k ∈ Region.ready md ops got := by simpa using hr
    obtain ⟨v, hy, hK⟩ := yieldsIn_of_qOp (P := P) (C := C) (K := wpQuiet P ops C Lq l) h0 (show qOp P ops C k (wpQuiet P ops C Lq l) a by unfold qOp; simp only [h0]; exact h)
    exact headQ_take h0 (Region.noSelect_spec hsel) hs hc hn hkn (fun got' a' hL => seqB_ready hL.1) l.length got a inv (Region.free_spec h0 hf) hr' hy
      (headQ_text hsel hs hc hn l (k + 1) _ _ (fun j hj => by have := hl (j + 1) (by simp; omega); simpa [Nat.add_assoc, Nat.add_comm 1 j] using this) (by simp only [List.length_cons] at hk; omega) (inv.set hr' hkn) hB' hK)

theorem wp_region_quiet_tail {id : Nat} {Q : Exit → Act → World → Prop} {a : Act} {w : World} {l : List Oper} (n : Nat) (hm : P.follows .mixedOrders = true) (hB : Region.lexTailB .any l.toArray n = true) (hC : C { w with drawn := w.drawn + 1 })
    (h : wpQuiet P l.toArray C (fun a' => ∀ w', C w' → wpList P l.toArray Q (l.drop n) a' w') (l.take n) a) : (Code.region id l.toArray true).wp P Q a w := by
  simp only [Region.lexTailB, Bool.and_eq_true, decide_eq_true_eq] at hB
  obtain ⟨⟨⟨⟨hsel, hn⟩, hs⟩, hc⟩, hlex⟩ := hB
  have hn' : n < l.length := by simpa using hn
  have htl : (l.take n).length = n := by simp; omega
  have hdl : (l.drop n).length = l.toArray.size - n := by simp
  have inv0 : HeadInv .any l.toArray n (Array.replicate l.toArray.size false) :=
    ⟨by simp, fun j oj _ hl => (by rw [getD_replicate_false] at hl; cases hl), fun t _ ht => getD_in (by simpa using ht) (getD_replicate_false _ _)⟩
  have H := headQ_text (P := P) (C := C) (md := .any) (g := l.toArray.size - n) hsel hs hc hn (l.take n) 0 _ a (fun j hj => by
    have hj' : j < n := by rw [htl] at hj; exact hj
    simp [hj']) (by simpa using htl) inv0 (by rw [htl]; exact hlex) h
  refine wp_region_any hm ?_
  have := any_of_headQ (Q := Q) (g := l.toArray.size - n) (fun got a' w' hw' hL => by
    have := wpAny_of_seq (md := .any) (Q' := Q) (l.drop n) n got a' w' (fun j => by simp [List.getElem?_drop]) (by rw [hdl]; exact hL.1) (hL.2 w' hw')
    rwa [hdl] at this) _ _ _ _ hC H
  rw [htl, show n + (l.toArray.size - n) = l.toArray.size by omega] at this
  exact this

/-- The same at the class of worlds that have grown. -/
theorem wp_region_tail_below {id : Nat} {Q : Exit → Act → World → Prop} {a : Act} {w : World} {l : List Oper} (n : Nat) (hm : P.follows .mixedOrders = true) (hB : Region.lexTailB .any l.toArray n = true)
    (h : wpQuiet P l.toArray (fun w' => ∃ p : Regrown, w' = grow (redrawn w p.d) p.os) (fun a' => ∀ w', (∃ p : Regrown, w' = grow (redrawn w p.d) p.os) → wpList P l.toArray Q (l.drop n) a' w') (l.take n) a) : (Code.region id l.toArray true).wp P Q a w :=
  wp_region_quiet_tail (C := fun w' => ∃ p : Regrown, w' = grow (redrawn w p.d) p.os) n hm hB ⟨⟨w.drawn + 1, #[]⟩, by rw [grow_empty]; rfl⟩ h
end
end Go.Proofs.YtomkhhpigpilfaaGreatDoor
