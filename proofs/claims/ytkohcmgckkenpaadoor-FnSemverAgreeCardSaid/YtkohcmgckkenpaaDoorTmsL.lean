/- The law FnSemverTermsGroup in plain words, and the lists that it makes. -/
import Derived.Test.YtkohcmgckkenpaaDoorTmsG
import Derived.Test.YtkohcmgckkenpaaDoorSvGood
import Derived.Deep.RegionLaw
import Derived.Laws.AppendOwn
set_option linter.unusedVariables false
set_option linter.unusedSimpArgs false
namespace Go.Proofs.YtkohcmgckkenpaaDoor
open Go.RowKit

theorem opBelow_self (a b c : Int) (p : ByteArray) : opV 3 a b c p a b c p 3 true = false := by
  unfold opV opR opBelow
  simp [cmpV, num3, segC, preCmp_self, preBar]
theorem opEqual_self (a b c : Int) (p : ByteArray) : opV 0 a b c p a b c p 3 true = true := by
  unfold opV opR opEq
  simp [cmpV, num3, segC, preCmp_self, preBar]

abbrev tmB (a b c : Int) (p : ByteArray) : Tm := ⟨3, 3, a, b, c, p⟩
abbrev tmE (a b c : Int) (p : ByteArray) : Tm := ⟨0, 3, a, b, c, p⟩

theorem all_barred (a b c : Int) (p : ByteArray) (hp : p.toList.isEmpty = false) (l : List Tm) (hne : l ≠ []) (ho : ∀ t ∈ l, 0 ≤ t.o ∧ t.o < 8) (h : hasP l = false) : l.all (tv a b c p (hasP l)) = false := by
  rw [h]
  cases l with
  | nil => exact absurd rfl hne
  | cons t r =>
    have hh := ho t (List.mem_cons_self ..)
    rw [List.all_cons]
    have : tv a b c p false t = false := letin_full t.o.toNat (by omega) a b c p t.a t.b t.c t.p t.k.toNat hp
    rw [this]
    rfl
theorem hasP_one (t : Tm) (h : t.p.toList.isEmpty = false) : hasP [t] = true := by
  unfold hasP
  simp [h]
theorem group_law (a b c : Int) (p : ByteArray) (hp : p.toList.isEmpty = false) (C : List (List Tm)) (hC : ∀ l ∈ C, l ≠ [] ∧ ∀ t ∈ l, 0 ≤ t.o ∧ t.o < 8) : anyL a b c p ([tmB a b c p] :: C.filter hasP) = anyL a b c p C := by
  have h1 : anyL a b c p ([tmB a b c p] :: C.filter hasP) = anyL a b c p (C.filter hasP) := by
    unfold anyL
    rw [List.any_cons, hasP_one _ hp]
    have : [tmB a b c p].all (tv a b c p true) = false := by
      simp only [List.all_cons, List.all_nil, Bool.and_true]
      exact opBelow_self a b c p
    rw [this, Bool.false_or]
  rw [h1]
  induction C with
  | nil => rfl
  | cons l r ih =>
    have ihr := ih (fun x hx => hC x (List.mem_cons_of_mem _ hx)) (by
      unfold anyL
      rw [List.any_cons, hasP_one _ hp]
      have : [tmB a b c p].all (tv a b c p true) = false := by
        simp only [List.all_cons, List.all_nil, Bool.and_true]
        exact opBelow_self a b c p
      rw [this, Bool.false_or])
    have hl := hC l (List.mem_cons_self ..)
    cases hq : hasP l with
    | true =>
      rw [List.filter_cons_of_pos hq]
      unfold anyL at ihr ⊢
      rw [List.any_cons, List.any_cons, ihr]
    | false =>
      rw [List.filter_cons_of_neg (by rw [hq]; decide)]
      have := all_barred a b c p hp l hl.1 hl.2 hq
      unfold anyL at ihr ⊢
      rw [List.any_cons, this, Bool.false_or]
      exact ihr
theorem group_own (a b c : Int) (p : ByteArray) (hp : p.toList.isEmpty = false) (C : List (List Tm)) : anyL a b c p (C ++ [[tmE a b c p]]) = true := by
  unfold anyL
  rw [List.any_append]
  have : [[tmE a b c p]].any (fun l => l.all (tv a b c p (hasP l))) = true := by
    simp only [List.any_cons, List.any_nil, Bool.or_false, hasP_one (tmE a b c p) hp, List.all_cons, List.all_nil, Bool.and_true]
    exact opEqual_self a b c p
  rw [this, Bool.or_true]

/-- Lists that the law makes: of the given lists and of single terms of its own. -/
structure DR (w : World) (D : List (List Tm)) (v : Value) (ys : List Value) (wr : World) : Prop where
  own : wr.ownsRow w.heap.size 32 1 v D.length ys
  at_ : ∀ (i : Nat) (l : List Tm), D[i]? = some l → ∃ bo cq, ys[i]? = some (.slice bo l.length cq) ∧ (TL w bo l ∨ ∃ g t, bo = some ⟨g, 0, none⟩ ∧ l = [t] ∧ Blk wr g 30 (tm6 t))
  below : Below w.heap.size w wr
theorem tl_one {w : World} {g : Nat} {t : Tm} (h : Blk w g 30 (tm6 t)) : TL w (some ⟨g, 0, none⟩) [t] := fun j s hj => by
  have hj0 : j = 0 := by
    rcases j with _ | j
    · rfl
    · simp at hj
  subst hj0
  obtain rfl : t = s := by simpa using hj
  refine ⟨_, rfl, ?_⟩
  rw [Nat.zero_mul, Addr.add_zero']
  exact ⟨h.cell 0, h.cell 1, h.cell 2, h.cell 3, h.cell 4, h.cell 5⟩
theorem DR.on {w wr w' : World} {D : List (List Tm)} {v : Value} {ys : List Value} (R : DR w D v ys wr) (hb : Below wr.heap.size wr w') : DR w D v ys w' := by
  refine ⟨own_below R.own hb, fun i l hi => ?_, bt R.below hb⟩
  obtain ⟨bo, cq, h1, h2⟩ := R.at_ i l hi
  refine ⟨bo, cq, h1, ?_⟩
  rcases h2 with h2 | ⟨g, t, e1, e2, h2⟩
  · exact .inl h2
  · exact .inr ⟨g, t, e1, e2, h2.below hb⟩
theorem DR.ll {w wr : World} {D : List (List Tm)} {v : Value} {ys : List Value} (R : DR w D v ys wr) (h0 : 0 < D.length) : ∃ x cq, v = .slice (some x) D.length cq ∧ LL wr (some x) D := by
  obtain ⟨g, cap, hv⟩ := Go.Joins.ownsRow_form R.own h0
  subst hv
  refine ⟨_, cap, rfl, fun i l hi => ?_⟩
  obtain ⟨bo, cq, h1, h2⟩ := R.at_ i l hi
  refine ⟨_, bo, cq, rfl, R.own.cells (g := g) rfl i _ h1, ?_⟩
  rcases h2 with h2 | ⟨g1, t, rfl, rfl, h2⟩
  · exact h2.below R.below
  · exact tl_one h2
theorem DR.step {w wr w1 : World} {D : List (List Tm)} {v v1 : Value} {ys : List Value} {l : List Tm} {bo : Option Addr} {cq : Nat} {x : Obj} (R : DR w D v ys wr) (hT : TL w bo l)
    (hown : w1.ownsRow w.heap.size 32 1 v1 (D.length + 1) (ys ++ [.slice bo l.length cq])) (hg : (wr.alloc x).grownBy w1 v.ownBlock) (hb : Below w.heap.size w w1) : DR w (D ++ [l]) v1 (ys ++ [.slice bo l.length cq]) w1 := by
  have o2 := R.own.alloc x
  have hly : ys.length = D.length := by have := R.own.1; omega
  refine ⟨by rw [List.length_append]; exact hown, fun i s hi => ?_, hb⟩
  by_cases hlt : i < D.length
  · rw [List.getElem?_append_left hlt] at hi
    obtain ⟨bo', cq', h1, h2⟩ := R.at_ i s hi
    refine ⟨bo', cq', by rw [List.getElem?_append_left (by omega)]; exact h1, ?_⟩
    rcases h2 with h2 | ⟨g, t, e1, e2, h2⟩
    · exact .inl h2
    · exact .inr ⟨g, t, e1, e2, (h2.alloc x).grown hg (own_ne o2 (h2.alloc x) (by decide))⟩
  · have hi' : i = D.length := by
      have := (List.getElem?_eq_some_iff.1 hi).1
      rw [List.length_append] at this
      simp at this
      omega
    subst hi'
    rw [List.getElem?_append_right (Nat.le_refl _), Nat.sub_self] at hi
    obtain rfl : l = s := by simpa using hi
    refine ⟨bo, cq, ?_, .inl hT⟩
    rw [List.getElem?_append_right (by omega), hly, Nat.sub_self]
    rfl
/-- append of whatever elements to a row of the call's own, as one step of a region that draws. -/
theorem step_append_own {P : Program} {ops : Array Oper} {o : Oper} {a : Act} {w : World} {K : Act → World → Prop} {Q : Exit → Act → World → Prop} {E : Prop}
    (hg : o.guard = none) (s x : Operand) (t : TypeId) (hop : o.op = Op.call { callee := Callee.builtin Builtin.append, args := #[s, x], argTypes := #[t, t] })
    (e : TypeId) (z : Value) (size bytes : Nat) (h1 : P.underlying t = some (.slice e)) (hinfo : (P.info? e).map (fun i => (i.zero, i.size, i.bytes)) = some (some z, size, bytes)) (h6 : z.cells.size = size) (h7 : 0 < size)
    (base : Nat) (v : Value) (n : Nat) (xs : List Value) (hs : a.eval s = v) (hown : w.ownsRow base e size v n xs)
    (ad : Addr) (m c : Nat) (news : List Value) (hx : a.eval x = .slice (some ad) m c) (hn : news.length = m * size) (hc : ∀ j u, news[j]? = some u → w.cell? (ad.add j) = some u) (h1c : ∀ u ∈ news, u.oneCell' = true)
    (b1 : n + m ≤ maxLen) (b2 : (n + m) * bytes ≤ 140737488355328) (hbase : base ≤ w.heap.size)
    (hK : ∀ v' w', w'.ownsRow base e size v' (n + m) (xs ++ news) → w.grownBy w' v.ownBlock → K (a.put o.dst v') w') :
    if Region.wanted o (yielded ops a.tmps) = true then Oper.wp P o a w K Q else E := by
  have hw : Region.wanted o (yielded ops a.tmps) = true := by simp [Region.wanted, hg]
  rw [if_pos hw]
  obtain ⟨i, h2, hzz⟩ := Option.map_eq_some_iff.1 hinfo
  simp only [Prod.mk.injEq] at hzz
  obtain ⟨h3, h4, h5⟩ := hzz
  obtain ⟨v', w', hrun, r1, r2, _⟩ := run_append_own (P := P) w base t o.type e i z size bytes h1 h2 h3 h4 h5 h6 h7 v n xs hown ad m c news hn hc h1c b1 b2 hbase
  unfold Oper.wp
  simp [execOp, hop, resolve, invoke, builtin, hs, hx, hrun, Result.andThen]
  exact hK v' w' r1 r2

/-- A call of a function of the program's, as one step of a region that draws. -/
theorem step_call {P : Program} {ops : Array Oper} {o : Oper} {a : Act} {w : World} {K : Act → World → Prop} {Q : Exit → Act → World → Prop} {E : Prop}
    (hg : o.guard = none) (f : FuncId) (args : Array Operand) (tys : Array TypeId) (vals : Array Value) (hop : o.op = .call { callee := .value (.func f), args := args, argTypes := tys })
    (hen : ∀ args w, (callFunc f args).run P w = .ok (.enter f args) w) (hv : args.map a.eval = vals) (R : Ending → World → Prop) (hc : Calls P f vals w R) (hR : ∀ e w', R e w' → ∃ v, e = .returned v ∧ K (a.put o.dst v) w') :
    if Region.wanted o (yielded ops a.tmps) = true then Oper.wp P o a w K Q else E := by
  have hw : Region.wanted o (yielded ops a.tmps) = true := by simp [Region.wanted, hg]
  rw [if_pos hw]
  unfold Oper.wp
  simp [execOp, hop, resolve, invoke, hen, hv, Result.andThen, Act.eval, Deferred.ofValue, Oper.upon]
  refine hc.mono fun e w' h => ?_
  obtain ⟨v, rfl, hk⟩ := hR e w' h
  exact hk

/-- The values of a slice of lists. -/
theorem LL.vals {w : World} {ao : Option Addr} {L : List (List Tm)} (h : LL w ao L) (h0 : 0 < L.length) : ∃ (a : Addr) (ys : List Value), ao = some a ∧ ys.length = L.length ∧ (∀ (j : Nat) (u : Value), ys[j]? = some u → w.cell? (a.add j) = some u ∧ u.oneCell' = true) ∧
    ∀ (i : Nat) (l : List Tm), L[i]? = some l → ∃ bo cq, ys[i]? = some (Value.slice bo l.length cq) ∧ TL w bo l := by
  have key : ∀ i, ∃ y : Option Addr × Nat, ∀ l, L[i]? = some l → ∃ a, ao = some a ∧ w.cell? (a.add i) = some (.slice y.1 l.length y.2) ∧ TL w y.1 l := fun i => by
    cases hl : L[i]? with
    | none => exact ⟨(none, 0), fun l h => by cases h⟩
    | some l =>
      obtain ⟨a, bo, cp, h1, h2, h3⟩ := h i l hl
      exact ⟨(bo, cp), fun l' h' => by obtain rfl := Option.some.inj h'; exact ⟨a, h1, h2, h3⟩⟩
  obtain ⟨a, _, _, ha, _⟩ := h 0 _ (List.getElem?_eq_getElem h0)
  subst ha
  obtain ⟨g, hg⟩ := Classical.axiomOfChoice key
  obtain ⟨f, hf0⟩ : ∃ f : Nat → Value, ∀ i, f i = .slice (g i).1 (L.getD i []).length (g i).2 := ⟨_, fun _ => rfl⟩
  have hf : ∀ i l, L[i]? = some l → f i = .slice (g i).1 l.length (g i).2 := fun i l hl => by
    rw [hf0, List.getD_eq_getElem?_getD, hl]
    rfl
  refine ⟨a, (List.range L.length).map f, rfl, by simp, fun j u hj => ?_, fun i l hl => ?_⟩
  · rw [List.getElem?_map] at hj
    have hlt : j < L.length := by
      rcases Nat.lt_or_ge j L.length with h | h
      · exact h
      · rw [List.getElem?_eq_none (by simpa using h)] at hj
        cases hj
    rw [List.getElem?_range hlt] at hj
    have hl : L[j]? = some (L[j]'hlt) := List.getElem?_eq_getElem hlt
    have hu : f j = u := by simpa using hj
    obtain ⟨a', e, h1, _⟩ := hg j _ hl
    obtain rfl := Option.some.inj e
    rw [← hu, hf j _ hl]
    exact ⟨h1, rfl⟩
  · obtain ⟨a', e, h1, h2⟩ := hg i l hl
    have hlt := (List.getElem?_eq_some_iff.1 hl).1
    refine ⟨(g i).1, (g i).2, ?_, h2⟩
    rw [List.getElem?_map, List.getElem?_range hlt]
    exact congrArg some (hf i l hl)

/-- The law's own list: the given lists and a single term behind. -/
theorem dr_own {w w0 wr : World} {C : List (List Tm)} {ys : List Value} {t : Tm} {g N : Nat} {v : Value} (hN : C.length = N) (hl : ys.length = C.length) (hT : ∀ (i : Nat) (l : List Tm), C[i]? = some l → ∃ bo cq, ys[i]? = some (Value.slice bo l.length cq) ∧ TL w bo l)
    (hb0 : Below w.heap.size w w0) (hb : Below w0.heap.size w0 wr) (hown : wr.ownsRow w0.heap.size 32 1 v (N + 1) (ys ++ [.slice (some ⟨g, 0, none⟩) 1 1])) (hB : Blk wr g 30 (tm6 t)) :
    ∃ x cq, v = .slice (some x) (C ++ [[t]]).length cq ∧ LL wr (some x) (C ++ [[t]]) := by
  obtain ⟨gv, cap, hv⟩ := Go.Joins.ownsRow_form hown (by omega)
  subst hv
  refine ⟨⟨gv, 0, none⟩, cap, by rw [List.length_append, hN]; rfl, fun i l hi => ?_⟩
  by_cases hlt : i < C.length
  · rw [List.getElem?_append_left hlt] at hi
    obtain ⟨bo, cq, h1, h2⟩ := hT i l hi
    exact ⟨_, bo, cq, rfl, hown.cells (g := gv) rfl i _ (by rw [List.getElem?_append_left (by omega)]; exact h1), h2.below (bt hb0 hb)⟩
  · have hi' : i = C.length := by
      have := (List.getElem?_eq_some_iff.1 hi).1
      rw [List.length_append] at this
      simp at this
      omega
    subst hi'
    rw [List.getElem?_append_right (Nat.le_refl _), Nat.sub_self] at hi
    obtain rfl : [t] = l := by simpa using hi
    refine ⟨_, some ⟨g, 0, none⟩, 1, rfl, hown.cells (g := gv) rfl _ _ ?_, tl_one hB⟩
    rw [List.getElem?_append_right (by omega), hl, Nat.sub_self]
    rfl
end Go.Proofs.YtkohcmgckkenpaaDoor
