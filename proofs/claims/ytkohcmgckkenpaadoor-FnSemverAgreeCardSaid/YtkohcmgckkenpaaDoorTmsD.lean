/- semver.ZZConstraints, walked: the constraints of lists of terms in memory. semver.ZZConstraints, walked. -/
import Derived.Test.YtkohcmgckkenpaaDoorTmsB
import Derived.Test.YtkohcmgckkenpaaDoorTermH
set_option linter.unusedVariables false
set_option linter.unusedSimpArgs false
namespace Go.Proofs.YtkohcmgckkenpaaDoor
open Go.RowKit

/-- An inner term from address x on. -/
structure ZAt (w : World) (x : Addr) (op : ByteArray) (h : Nat) (di mi pa : Bool) : Prop where
  c0 : w.cell? x = some (.string op)
  c1 : w.cell? { block := x.block, off := x.off + 1 } = some (.pointer (some ⟨h, 0, none⟩))
  c2 : w.cell? { block := x.block, off := x.off + 2 } = some (.bool di)
  c3 : w.cell? { block := x.block, off := x.off + 3 } = some (.bool mi)
  c4 : w.cell? { block := x.block, off := x.off + 4 } = some (.bool pa)
theorem ZAt.below {w w' : World} {x : Addr} {op : ByteArray} {h : Nat} {di mi pa : Bool} (z : ZAt w x op h di mi pa) (hb : Below w.heap.size w w') : ZAt w' x op h di mi pa :=
  ⟨(hb.cell (World.block_lt_of_cell? w _ z.c0)).trans z.c0, (hb.cell (World.block_lt_of_cell? w _ z.c1)).trans z.c1, (hb.cell (World.block_lt_of_cell? w _ z.c2)).trans z.c2, (hb.cell (World.block_lt_of_cell? w _ z.c3)).trans z.c3, (hb.cell (World.block_lt_of_cell? w _ z.c4)).trans z.c4⟩
theorem add_blk (g n : Nat) : (⟨g, 0, none⟩ : Addr).add n = ⟨g, n, none⟩ := by unfold Addr.add; split <;> simp_all

/-- A list of inner terms as the walk reads it. -/
def ZO (B : Nat) (w : World) (x : Addr) (l : List Tm) : Prop := ∀ j t, l[j]? = some t → ∃ h, B ≤ h ∧ ZAt w (x.add (j * 5)) (opS t.o.toNat) h (decide (t.k.toNat < 3)) (t.k.toNat == 1) (t.k.toNat == 2) ∧ Blk w h 67 (vc t)
theorem ZO.below {B : Nat} {w w' : World} {x : Addr} {l : List Tm} (z : ZO B w x l) (hb : Below w.heap.size w w') : ZO B w' x l := fun j t hj => by
  obtain ⟨h, h0, h1, h2⟩ := z j t hj
  exact ⟨h, h0, h1.below hb, h2.below hb⟩
theorem ZL.opened {B : Nat} {w : World} {v : Value} {l : List Tm} (z : ZL B w v l) : ∃ x cap, v = .slice (some x) l.length cap ∧ ZO B w x l := by
  obtain ⟨g, cap, cur, hv, hb, h⟩ := z
  refine ⟨_, cap, hv, fun j t hj => ?_⟩
  obtain ⟨h, h0, h1, h2⟩ := h j t hj
  refine ⟨h, h0, ?_, h2⟩
  have c := fun q u hq => (hb.cell (j * 5 + q)).trans (h1 q u hq)
  rw [add_blk]
  exact ⟨c 0 _ rfl, c 1 _ rfl, c 2 _ rfl, c 3 _ rfl, c 4 _ rfl⟩
/-- The outer list as the walk reads it. -/
theorem ORel.opened {w wr : World} {L : List (List Tm)} {n : Nat} {v : Value} {vs : List Value} (R : ORel w L n v vs wr) (hn : 0 < n) : ∃ x cap, v = .slice (some x) n cap ∧ ∀ (i : Nat) (y : Value), vs[i]? = some y → wr.cell? (x.add i) = some y := by
  obtain ⟨g, cap, hv⟩ := Go.Joins.ownsRow_form R.own hn
  subst hv
  exact ⟨⟨g, 0, none⟩, cap, rfl, fun i y hy => R.own.cells (g := g) rfl i y hy⟩

abbrev cc (t : Tm) (h : Nat) : Array Value := ccells (opS t.o.toNat) h (decide (t.k.toNat < 3)) (t.k.toNat == 1) (t.k.toNat == 2)
/-- A finished list of constraints. -/
def CL (B : Nat) (w : World) (v : Value) (l : List Tm) : Prop := ∃ g cap cur, v = .slice (some ⟨g, 0, none⟩) l.length cap ∧ Blk w g 64 cur ∧
  ∀ (j : Nat) (t : Tm), l[j]? = some t → ∃ k h, B ≤ h ∧ cur[j]? = some (Value.pointer (some ⟨k, 0, none⟩)) ∧ Blk w k 79 (cc t h) ∧ Blk w h 67 (vc t)
theorem CL.keep {B : Nat} {w w' : World} {v : Value} {l : List Tm} (h : CL B w v l) (K : KeepT w w') : CL B w' v l := by
  obtain ⟨g, cap, cur, e, hb, h⟩ := h
  exact ⟨g, cap, cur, e, K _ _ _ (.inr (.inr (.inr rfl))) hb, fun j t hj => by obtain ⟨k, x, h0, h1, h2, h3⟩ := h j t hj; exact ⟨k, x, h0, h1, K _ _ _ (.inr (.inr (.inl rfl))) h2, K _ _ _ (.inr (.inl rfl)) h3⟩⟩
def CLs (B : Nat) (w : World) (vs : List Value) (L : List (List Tm)) : Prop := vs.length = L.length ∧ ∀ (i : Nat) (v : Value) (l : List Tm), vs[i]? = some v → L[i]? = some l → CL B w v l
theorem CLs.keep {B : Nat} {w w' : World} {vs : List Value} {L : List (List Tm)} (h : CLs B w vs L) (K : KeepT w w') : CLs B w' vs L := by
  refine ⟨h.1, ?_⟩
  intro i v l h1 h2
  exact (h.2 i v l h1 h2).keep K
theorem CLs.snoc {B : Nat} {w : World} {vs : List Value} {L : List (List Tm)} {v : Value} {l : List Tm} (h : CLs B w vs L) (hv : CL B w v l) : CLs B w (vs ++ [v]) (L ++ [l]) := by
  refine ⟨by rw [List.length_append, List.length_append, h.1]; rfl, ?_⟩
  intro i x y hx hy
  have hl := h.1
  by_cases hlt : i < L.length
  · rw [List.getElem?_append_left (by omega)] at hx hy
    exact h.2 i x y hx hy
  · have hi : i = L.length := by
      have := (List.getElem?_eq_some_iff.1 hy).1
      rw [List.length_append] at this
      simp at this
      omega
    subst hi
    rw [List.getElem?_append_right (by omega)] at hx hy
    rw [hl, Nat.sub_self] at hx
    rw [Nat.sub_self] at hy
    obtain rfl := Option.some.inj hx
    obtain rfl := Option.some.inj hy
    exact hv

/-- What the inner loop of ZZConstraints holds behind j terms. -/
structure CRel (B : Nat) (W : World) (l : List Tm) (j : Nat) (v : Value) (xs : List Value) (wr : World) : Prop where
  own : wr.ownsRow W.heap.size 64 1 v j xs
  at_ : ∀ (i : Nat) (t : Tm), i < j → l[i]? = some t → ∃ k h, B ≤ h ∧ xs[i]? = some (Value.pointer (some ⟨k, 0, none⟩)) ∧ Blk wr k 79 (cc t h) ∧ Blk wr h 67 (vc t)
  below : Below W.heap.size W wr
theorem CRel.done {B : Nat} {W wr : World} {l : List Tm} {v : Value} {xs : List Value} (R : CRel B W l l.length v xs wr) (hne : l ≠ []) : CL B wr v l := by
  have hn : 0 < l.length := List.length_pos_iff.2 hne
  rcases R.own.2 with ⟨_, h0⟩ | ⟨g, cap, cur, hv, _, h3, _, _, _, h4⟩
  · omega
  · refine ⟨g, cap, cur, hv, h3, fun j t hj => ?_⟩
    obtain ⟨k, h, h0, h1, h2⟩ := R.at_ j t (List.getElem?_eq_some_iff.1 hj).1 hj
    refine ⟨k, h, h0, ?_, h2⟩
    rw [← h4, List.getElem?_take] at h1
    split at h1
    · rwa [Array.getElem?_toList] at h1
    · cases h1
theorem CRel.step {B : Nat} {W wr w2 w1 : World} {l : List Tm} {j k h : Nat} {v v1 : Value} {xs : List Value} {t : Tm} {x : Obj} (R : CRel B W l j v xs wr) (ht : l[j]? = some t)
    (hb2 : Below wr.heap.size wr w2) (hh : B ≤ h) (hC : Blk w2 k 79 (cc t h)) (hV : Blk w2 h 67 (vc t))
    (hown : w1.ownsRow W.heap.size 64 1 v1 (j + 1) (xs ++ [Value.pointer (some ⟨k, 0, none⟩)])) (hg : (w2.alloc x).grownBy w1 v.ownBlock) (hb : Below W.heap.size W w1) : CRel B W l (j + 1) v1 (xs ++ [Value.pointer (some ⟨k, 0, none⟩)]) w1 := by
  have o2 := (own_below R.own hb2).alloc x
  have upV : ∀ {b cs}, Blk w2 b 67 cs → Blk w1 b 67 cs := fun hB => (hB.alloc x).grown hg (own_ne o2 (hB.alloc x) (by decide))
  have upC : ∀ {b cs}, Blk w2 b 79 cs → Blk w1 b 79 cs := fun hB => (hB.alloc x).grown hg (own_ne o2 (hB.alloc x) (by decide))
  have hlx : xs.length = j * 1 := R.own.1
  refine ⟨hown, fun i s hi hs => ?_, hb⟩
  rcases Nat.lt_or_ge i j with hlt | hge
  · obtain ⟨k', h', h0, h1, h2, h3⟩ := R.at_ i s hlt hs
    refine ⟨k', h', h0, ?_, upC (h2.below hb2), upV (h3.below hb2)⟩
    rw [List.getElem?_append_left (List.getElem?_eq_some_iff.1 h1).1]
    exact h1
  · obtain rfl : i = j := by omega
    obtain rfl : t = s := Option.some.inj (ht.symm.trans hs)
    refine ⟨k, h, hh, ?_, upC hC, upV hV⟩
    rw [List.getElem?_append_right (by omega), hlx, Nat.mul_one, Nat.sub_self]
    rfl

theorem own_set {w : World} {base size n b : Nat} {e t : TypeId} {v : Value} {xs : List Value} {cs : Array Value} (h : w.ownsRow base e size v n xs) (hB : Blk w b t cs) (hte : t ≠ e) (i : Nat) (u : Value) : (w.setCell ⟨b, i, none⟩ u).ownsRow base e size v n xs := by
  refine ⟨h.1, ?_⟩
  rcases h.2 with h0 | ⟨g, cap, cur, rfl, h2, h3, h4⟩
  · exact .inl h0
  · refine .inr ⟨g, cap, cur, rfl, h2, ?_, h4⟩
    have : b ≠ g := own_ne h hB hte g rfl
    simp [World.setCell, Array.getElem?_modify, h3, this]
theorem Blk.set_other {w : World} {g b : Nat} {t : TypeId} {cs : Array Value} (h : Blk w g t cs) (hne : g ≠ b) (i : Nat) (u : Value) : Blk (w.setCell ⟨b, i, none⟩ u) g t cs := by
  unfold Blk at h ⊢
  simp [World.setCell, Array.getElem?_modify, h, Ne.symm hne]
theorem blk_ne {w : World} {g b : Nat} {t e : TypeId} {cs ds : Array Value} (h : Blk w g t cs) (hB : Blk w b e ds) (hte : t ≠ e) : g ≠ b := by
  rintro rfl
  unfold Blk at h hB
  rw [h] at hB
  simp at hB
  exact hte hB.2
/-- A row of one's own while another one grows. -/
theorem own_grown {w w' : World} {base base2 size size2 n n2 : Nat} {e e2 : TypeId} {v v2 : Value} {xs xs2 : List Value} (h : w.ownsRow base e size v n xs) (h2 : w.ownsRow base2 e2 size2 v2 n2 xs2) (hg : w.grownBy w' v2.ownBlock) (hte : e ≠ e2) : w'.ownsRow base e size v n xs := by
  refine ⟨h.1, ?_⟩
  rcases h.2 with h0 | ⟨g, cap, cur, rfl, h3, h4, h5⟩
  · exact .inl h0
  · exact .inr ⟨g, cap, cur, rfl, h3, (show Blk w g e cur from h4).grown hg (own_ne h2 h4 hte), h5⟩

abbrev zcs (v0 v1 : Value) (inc : Bool) : Array Value := #[v0, v1, .bool inc]
/-- What the outer loop of ZZConstraints holds behind i lists. -/
structure COut (inc : Bool) (B : Nat) (w : World) (L : List (List Tm)) (i G : Nat) (v0 v1 : Value) (vs bs : List Value) (wr : World) : Prop where
  st : Blk wr G 48 (zcs v0 v1 inc)
  res : Blk wr w.heap.size 48 (zcs (.slice none 0 0) (.slice none 0 0) false)
  ne : w.heap.size < G
  o0 : wr.ownsRow w.heap.size 61 1 v0 i vs
  o1 : wr.ownsRow w.heap.size 4 1 v1 i bs
  at_ : CLs B wr vs (L.take i)
  hb : bs = (L.take i).map (fun l => Value.bool (hasP l))
  below : Below w.heap.size w wr

theorem KeepT.set {w : World} {G : Nat} {cs : Array Value} (h : Blk w G 48 cs) (i : Nat) (u : Value) : KeepT w (w.setCell ⟨G, i, none⟩ u) := fun b t ds ht hB => by
  refine hB.set_other (blk_ne hB h ?_) i u
  rcases ht with rfl | rfl | rfl | rfl <;> decide

/-- The first append and its store. -/
structure CMid (inc : Bool) (B : Nat) (w : World) (L : List (List Tm)) (i G : Nat) (v0 v1 : Value) (vs bs : List Value) (wr : World) : Prop where
  st : Blk wr G 48 (zcs v0 v1 inc)
  res : Blk wr w.heap.size 48 (zcs (.slice none 0 0) (.slice none 0 0) false)
  ne : w.heap.size < G
  o0 : wr.ownsRow w.heap.size 61 1 v0 (i + 1) vs
  o1 : wr.ownsRow w.heap.size 4 1 v1 i bs
  at_ : CLs B wr vs (L.take (i + 1))
  hb : bs = (L.take i).map (fun l => Value.bool (hasP l))
  below : Below w.heap.size w wr

theorem COut.mid {inc : Bool} {B : Nat} {w wr w2 w1 : World} {L : List (List Tm)} {i G : Nat} {v0 v1 u0 y : Value} {vs bs : List Value} {l : List Tm} {x : Obj} (R : COut inc B w L i G v0 v1 vs bs wr) (hl : L[i]? = some l)
    (hb2 : Below wr.heap.size wr w2) (hC : CL B w2 y l) (hown : w1.ownsRow w.heap.size 61 1 u0 (i + 1) (vs ++ [y])) (hg : (w2.alloc x).grownBy w1 v0.ownBlock) (hb : Below w.heap.size w w1) :
    Blk w1 G 48 (zcs v0 v1 inc) ∧ CMid inc B w L i G u0 v1 (vs ++ [y]) bs (w1.setCell ⟨G, 0, none⟩ u0) := by
  have o2 := (own_below R.o0 hb2).alloc x
  have o3 := (own_below R.o1 hb2).alloc x
  have K : KeepT w2 w1 := fun b t cs ht hB => (hB.alloc x).grown hg (own_ne o2 (hB.alloc x) (by rcases ht with rfl | rfl | rfl | rfl <;> decide))
  have st1 : Blk w1 G _ _ := ((R.st.below hb2).alloc x).grown hg (own_ne o2 ((R.st.below hb2).alloc x) (by decide))
  have re1 : Blk w1 w.heap.size _ _ := ((R.res.below hb2).alloc x).grown hg (own_ne o2 ((R.res.below hb2).alloc x) (by decide))
  have K2 := KeepT.set st1 0 u0
  refine ⟨st1, ⟨st1.set 0 u0, re1.set_other (Nat.ne_of_lt R.ne) 0 u0, R.ne, own_set hown st1 (by decide) 0 u0, own_set (own_grown o3 o2 hg (by decide)) st1 (by decide) 0 u0, ?_, R.hb, below_set hb (Nat.le_of_lt R.ne) 0 u0⟩⟩
  rw [List.take_add_one, hl]
  exact (((R.at_.keep ((KeepT.of_below hb2).trans K))).snoc (hC.keep K)).keep K2
theorem CMid.out {inc : Bool} {B : Nat} {w wr w1 : World} {L : List (List Tm)} {i G : Nat} {v0 v1 u1 : Value} {vs bs : List Value} {l : List Tm} {x : Obj} (R : CMid inc B w L i G v0 v1 vs bs wr) (hl : L[i]? = some l)
    (hown : w1.ownsRow w.heap.size 4 1 u1 (i + 1) (bs ++ [.bool (hasP l)])) (hg : (wr.alloc x).grownBy w1 v1.ownBlock) (hb : Below w.heap.size w w1) :
    Blk w1 G 48 (zcs v0 v1 inc) ∧ COut inc B w L (i + 1) G v0 u1 vs (bs ++ [.bool (hasP l)]) (w1.setCell ⟨G, 1, none⟩ u1) := by
  have o2 := R.o1.alloc x
  have o3 := R.o0.alloc x
  have K : KeepT wr w1 := fun b t cs ht hB => (hB.alloc x).grown hg (own_ne o2 (hB.alloc x) (by rcases ht with rfl | rfl | rfl | rfl <;> decide))
  have st1 : Blk w1 G _ _ := (R.st.alloc x).grown hg (own_ne o2 (R.st.alloc x) (by decide))
  have re1 : Blk w1 w.heap.size _ _ := (R.res.alloc x).grown hg (own_ne o2 (R.res.alloc x) (by decide))
  refine ⟨st1, ⟨st1.set 1 u1, re1.set_other (Nat.ne_of_lt R.ne) 1 u1, R.ne, own_set (own_grown o3 o2 hg (by decide)) st1 (by decide) 1 u1, own_set hown st1 (by decide) 1 u1, (R.at_.keep K).keep (KeepT.set st1 1 u1), ?_, below_set hb (Nat.le_of_lt R.ne) 1 u1⟩⟩
  rw [List.take_add_one, hl, R.hb]
  simp

theorem info_cp : (Tryd.prog.info? 64).map (fun i => (i.zero, i.size, i.bytes)) = some (some (.pointer none), 1, 8) := by kernel_rfl
theorem info_cps : (Tryd.prog.info? 61).map (fun i => (i.zero, i.size, i.bytes)) = some (some (.slice none 0 0), 1, 24) := by kernel_rfl
theorem info_bl : (Tryd.prog.info? 4).map (fun i => (i.zero, i.size, i.bytes)) = some (some (.bool false), 1, 1) := by kernel_rfl

end Go.Proofs.YtkohcmgckkenpaaDoor

set_option linter.unusedVariables false
set_option linter.unusedSimpArgs false
namespace Go.Proofs.YtkohcmgckkenpaaDoor
open Go.RowKit

/-- The constraints as Check reads them. -/
def CsR (B : Nat) (L : List (List Tm)) (v0 v1 : Value) (w : World) : Prop := ∃ x c0 y c1, v0 = .slice (some x) L.length c0 ∧ v1 = .slice (some y) L.length c1 ∧
  ∀ (i : Nat) (l : List Tm), L[i]? = some l → ∃ u, w.cell? (x.add i) = some u ∧ CL B w u l ∧ w.cell? (y.add i) = some (.bool (hasP l))
theorem CsR.below {B : Nat} {L : List (List Tm)} {v0 v1 : Value} {w w' : World} (h : CsR B L v0 v1 w) (hb : Below w.heap.size w w') : CsR B L v0 v1 w' := by
  obtain ⟨x, c0, y, c1, e0, e1, h⟩ := h
  refine ⟨x, c0, y, c1, e0, e1, fun i l hi => ?_⟩
  obtain ⟨u, h1, h2, h3⟩ := h i l hi
  exact ⟨u, (hb.cell (World.block_lt_of_cell? w _ h1)).trans h1, h2.keep (KeepT.of_below hb), (hb.cell (World.block_lt_of_cell? w _ h3)).trans h3⟩

theorem csr_of {B : Nat} {w wr : World} {L : List (List Tm)} {v0 v1 : Value} {vs bs : List Value} (hn : 0 < L.length) (o0 : wr.ownsRow w.heap.size 61 1 v0 L.length vs) (o1 : wr.ownsRow w.heap.size 4 1 v1 L.length bs)
    (hC : CLs B wr vs L) (hb : bs = L.map (fun l => Value.bool (hasP l))) : CsR B L v0 v1 wr := by
  obtain ⟨g0, c0, e0⟩ := Go.Joins.ownsRow_form o0 hn
  obtain ⟨g1, c1, e1⟩ := Go.Joins.ownsRow_form o1 hn
  subst e0 e1
  refine ⟨_, c0, _, c1, rfl, rfl, fun i l hi => ?_⟩
  have hlt := (List.getElem?_eq_some_iff.1 hi).1
  have hv : vs[i]? = some (vs[i]'(by rw [hC.1]; exact hlt)) := List.getElem?_eq_getElem _
  exact ⟨_, o0.cells (g := g0) rfl i _ hv, hC.2 i _ l hv hi, o1.cells (g := g1) rfl i _ (by rw [hb]; simp [hi])⟩

theorem COut.fin {inc : Bool} {B : Nat} {w wr : World} {L : List (List Tm)} {G : Nat} {v0 v1 : Value} {vs bs : List Value} (hn : 0 < L.length) (R : COut inc B w L L.length G v0 v1 vs bs wr) :
    CsR B L v0 v1 (((wr.setCell ⟨w.heap.size, 0, none⟩ v0).setCell ⟨w.heap.size, 1, none⟩ v1).setCell ⟨w.heap.size, 2, none⟩ (.bool inc)) ∧
    Blk (((wr.setCell ⟨w.heap.size, 0, none⟩ v0).setCell ⟨w.heap.size, 1, none⟩ v1).setCell ⟨w.heap.size, 2, none⟩ (.bool inc)) w.heap.size 48 (zcs v0 v1 inc) ∧
    Below w.heap.size w (((wr.setCell ⟨w.heap.size, 0, none⟩ v0).setCell ⟨w.heap.size, 1, none⟩ v1).setCell ⟨w.heap.size, 2, none⟩ (.bool inc)) := by
  have a0 := R.res.set 0 v0
  have a1 := a0.set 1 v1
  have a2 := a1.set 2 (.bool inc)
  refine ⟨?_, a2, below_set (below_set (below_set R.below (Nat.le_refl _) 0 _) (Nat.le_refl _) 1 _) (Nat.le_refl _) 2 _⟩
  have hC := R.at_
  rw [List.take_of_length_le (Nat.le_refl _)] at hC
  have hb := R.hb
  rw [List.take_of_length_le (Nat.le_refl _)] at hb
  exact csr_of hn (own_set (own_set (own_set R.o0 R.res (by decide) 0 v0) a0 (by decide) 1 v1) a1 (by decide) 2 _) (own_set (own_set (own_set R.o1 R.res (by decide) 0 v0) a0 (by decide) 1 v1) a1 (by decide) 2 _)
    (((hC.keep (KeepT.set R.res 0 v0)).keep (KeepT.set a0 1 v1)).keep (KeepT.set a1 2 _)) hb

theorem hasP_more {l : List Tm} {j : Nat} {t : Tm} (h : l[j]? = some t) : hasP (l.take (j + 1)) = (hasP (l.take j) || !t.p.toList.isEmpty) := by
  unfold hasP
  rw [List.take_add_one, h, List.any_append]
  simp

theorem inner_op (op : ByteArray) (h : Nat) (di mi pa : Bool) (w : World) : Calls Tryd.prog 31 #[.agg (zcells op h di mi pa)] w fun e w' =>
    (∃ k, e = .returned (.pointer (some ⟨k, 0, none⟩)) ∧ Blk w' k 79 (ccells op h di mi pa)) ∧ Below w.heap.size w w' := by
  refine (inner_any op h di mi pa w).mono ?_
  rintro e w' ⟨rfl, rfl⟩
  refine ⟨⟨_, rfl, ?_⟩, by go_grown⟩
  have B := Blk.new (w.alloc (.cells (zcells op h di mi pa) 63)) 79 (ccells op h di mi pa)
  rw [World.size_alloc] at B
  exact B

set_option maxHeartbeats 6400000 in
set_option maxRecDepth 100000 in
theorem zzcs_any (inc : Bool) (B : Nat) (L : List (List Tm)) (vs : List Value) (x0 : Addr) (N cap : Nat) (w : World) (hN : N = L.length) (h0 : 0 < N) (hn : N ≤ 100) (hc : ∀ (i : Nat) (y : Value), vs[i]? = some y → w.cell? (x0.add i) = some y) (hZ : ZLs B w vs L) (hO : ∀ l ∈ L, l ≠ [] ∧ l.length ≤ 100) :
    Calls Tryd.prog 21 #[.slice (some x0) N cap, .bool inc] w fun e w' =>
    (∃ v0 v1, e = .returned (.agg (zcs v0 v1 inc)) ∧ CsR B L v0 v1 w') ∧ Below w.heap.size w w' := by
  have HC := hid hc
  have HZ := hid hZ
  have HO := hid hO
  have HN := hid hN
  have H0 := hid h0
  clear hc hZ hO hN h0
  go_enter Tryd.func21, Tryd.ntmps21
  go_wp2_with fail
  go_loopw [16] (fun i wr => ∃ (k : Nat) (v0 v1 : Value) (us bs : List Value), k ≤ N ∧ i = .int .i64 k ∧ Hid (COut inc B w L k (w.heap.size + 1) v0 v1 us bs wr)) (fun i _ => N - (intOf i).toNat)
  case atStart =>
    refine ⟨0, .slice none 0 0, .slice none 0 0, [], [], Nat.zero_le _, rfl, ⟨?_, ?_, Nat.lt_succ_self _, World.ownsRow_nil _ _ _ _, World.ownsRow_nil _ _ _ _, ⟨rfl, fun i v l h => by simp at h⟩, rfl, by go_grown⟩⟩
    · exact (two_new w _ _ _ _).2
    · exact (two_new w _ _ _ _).1
  case round =>
    obtain ⟨k, v0, v1, us, bs, hk, rfl, R⟩ := hrel
    rename World => wo
    by_cases hlt : k < N
    · obtain ⟨l, hl⟩ : ∃ l, L[k]? = some l := ⟨_, List.getElem?_eq_getElem (by rw [← HN.out]; exact hlt)⟩
      obtain ⟨y, hy⟩ : ∃ y, vs[k]? = some y := ⟨_, List.getElem?_eq_getElem (by rw [HZ.out.1, ← HN.out]; exact hlt)⟩
      have hyc := HC.out k y hy
      have hyo : wo.cell? (x0.add k) = some y := (R.out.below.cell (World.block_lt_of_cell? w _ hyc)).trans hyc
      obtain ⟨x1, cq, hv, hZO⟩ := ((HZ.out.2 k y l hy hl).keep (KeepT.of_below R.out.below)).opened
      subst hv
      obtain ⟨hne, hm100⟩ := HO.out l (List.mem_of_getElem? hl)
      obtain ⟨m, hm⟩ : ∃ m, l.length = m := ⟨_, rfl⟩
      rw [hm] at hyo hm100
      have HK := hid hl
      have HM := hid hm
      have HT := hid hZO
      have HNE := hid hne
      clear hl hm hZO hne hy hyc
      have hw : IntKind.i64.wrap ((k : Int) + 1) = (k : Int) + 1 := IntWalk.i64_in _ (by omega)
      go_wp2_with fail
      go_loopw [22, 8, 9] (fun j v2 pb wr2 => ∃ (q : Nat) (xs : List Value), q ≤ m ∧ j = .int .i64 q ∧ pb = .bool (hasP (l.take q)) ∧ Hid (CRel B wo l q v2 xs wr2)) (fun j _ _ _ => m - (intOf j).toNat)
      case atStart => exact ⟨0, [], Nat.zero_le _, rfl, rfl, ⟨World.ownsRow_nil _ _ _ _, fun i t hi => absurd hi (Nat.not_lt_zero _), Below.refl _ _⟩⟩
      case round =>
        obtain ⟨q, xs, hq, rfl, rfl, I⟩ := hrel
        by_cases hlt2 : q < m
        · obtain ⟨t, ht⟩ : ∃ t, l[q]? = some t := ⟨_, List.getElem?_eq_getElem (by rw [HM.out]; exact hlt2)⟩
          obtain ⟨h, hBh, hz, hV⟩ := (HT.out.below I.out.below) q t ht
          obtain ⟨op, hop⟩ : ∃ op, opS t.o.toNat = op := ⟨_, rfl⟩
          obtain ⟨di, hdi⟩ : ∃ di, decide (t.k.toNat < 3) = di := ⟨_, rfl⟩
          obtain ⟨mi, hmi⟩ : ∃ mi, (t.k.toNat == 1) = mi := ⟨_, rfl⟩
          obtain ⟨pa, hpa⟩ : ∃ pa, (t.k.toNat == 2) = pa := ⟨_, rfl⟩
          have HCC := hid (show ccells op h di mi pa = cc t h by simp only [cc, hop, hdi, hmi, hpa])
          rw [hop, hdi, hmi, hpa] at hz
          have H1 := hid ht
          have HBH := hid hBh
          have HV := hid hV
          have HQ := hid (hasP_more ht)
          obtain ⟨pb0, hpb⟩ : ∃ b, hasP (l.take q) = b := ⟨_, rfl⟩
          rw [hpb]
          have HPB := hid hpb
          clear hop hdi hmi hpa ht hBh hV hpb
          obtain ⟨c0, c1, c2, c3, c4⟩ := hz
          have hw2 : IntKind.i64.wrap ((q : Int) + 1) = (q : Int) + 1 := IntWalk.i64_in _ (by omega)
          cases hp : t.p.toList.isEmpty with
          | true =>
            have e1 : (t.p.toList == []) = true := by simpa using hp
            have HP := hid hp
            clear hp
            go_wp2_with (first
              | (go_at_call 31; refine (inner_op op h di mi pa _).mono ?_; rintro e w2 ⟨⟨kc, rfl, hC⟩, hb2⟩
                 have B2 := hid (bt (show Below wr.heap.size wr _ by go_grown) hb2)
                 have X2 := hid ((Blk.new wr 63 (zcells op h di mi pa)).below (bt (Below.refl _ _) hb2))
                 have V2 := hid (HV.out.below B2.out)
                 have C2 := hid hC
                 clear hC hb2)
              | (at_builtin; refine app_row (w0 := wo) wo.heap.size rfl (.tmp 26) (.tmp 29) _ _ _ 1 8 rfl Tryd.underlying61 info_cp rfl (by decide) _ q xs [.pointer (some ⟨kc, 0, none⟩)] rfl rfl rfl (by simp [Value.oneCell']) (own_below I.out.own B2.out) (bt I.out.below B2.out) (bt I.out.below B2.out).size (by unfold maxLen; omega) (by omega) ?_; intro u1 w1 hown1 hg1 hb1
                 have I1 := hid (I.out.step H1.out B2.out HBH.out (by rw [← HCC.out]; exact C2.out) V2.out hown1 hg1 hb1)
                 have o2 := (own_below I.out.own B2.out).alloc (.cells #[.pointer (some ⟨kc, 0, none⟩)] 64)
                 have bx : w1.cell? ⟨wr.heap.size, 1, none⟩ = some (.pointer (some ⟨h, 0, none⟩)) := ((X2.out.alloc _).grown hg1 (own_ne o2 (X2.out.alloc _) (by decide))).cell 1
                 have pv : w1.cell? ⟨h, 3, none⟩ = some (.string t.p) := ((V2.out.alloc _).grown hg1 (own_ne o2 (V2.out.alloc _) (by decide))).cell 3
                 clear hown1 hg1 hb1 o2))
            go_roundw
            case rel => exact ⟨q + 1, _, by omega, by go_num, by rw [HQ.out, HPB.out, HP.out]; simp, I1.out⟩
            case measure => simp [intOf]; omega
          | false =>
            have e1 : (t.p.toList == []) = false := by simpa using hp
            have HP := hid hp
            clear hp
            go_wp2_with (first
              | (go_at_call 31; refine (inner_op op h di mi pa _).mono ?_; rintro e w2 ⟨⟨kc, rfl, hC⟩, hb2⟩
                 have B2 := hid (bt (show Below wr.heap.size wr _ by go_grown) hb2)
                 have X2 := hid ((Blk.new wr 63 (zcells op h di mi pa)).below (bt (Below.refl _ _) hb2))
                 have V2 := hid (HV.out.below B2.out)
                 have C2 := hid hC
                 clear hC hb2)
              | (at_builtin; refine app_row (w0 := wo) wo.heap.size rfl (.tmp 26) (.tmp 29) _ _ _ 1 8 rfl Tryd.underlying61 info_cp rfl (by decide) _ q xs [.pointer (some ⟨kc, 0, none⟩)] rfl rfl rfl (by simp [Value.oneCell']) (own_below I.out.own B2.out) (bt I.out.below B2.out) (bt I.out.below B2.out).size (by unfold maxLen; omega) (by omega) ?_; intro u1 w1 hown1 hg1 hb1
                 have I1 := hid (I.out.step H1.out B2.out HBH.out (by rw [← HCC.out]; exact C2.out) V2.out hown1 hg1 hb1)
                 have o2 := (own_below I.out.own B2.out).alloc (.cells #[.pointer (some ⟨kc, 0, none⟩)] 64)
                 have bx : w1.cell? ⟨wr.heap.size, 1, none⟩ = some (.pointer (some ⟨h, 0, none⟩)) := ((X2.out.alloc _).grown hg1 (own_ne o2 (X2.out.alloc _) (by decide))).cell 1
                 have pv : w1.cell? ⟨h, 3, none⟩ = some (.string t.p) := ((V2.out.alloc _).grown hg1 (own_ne o2 (V2.out.alloc _) (by decide))).cell 3
                 clear hown1 hg1 hb1 o2))
            go_roundw
            case rel => exact ⟨q + 1, _, by omega, by go_num, by rw [HQ.out, HPB.out, HP.out]; simp, I1.out⟩
            case measure => simp [intOf]; omega
        · have hqm : q = l.length := by rw [HM.out]; omega
          have Z := hid ((show CRel B wo l l.length _ xs wr from hqm ▸ I.out).done HNE.out)
          have HPF : hasP (l.take q) = hasP l := by rw [List.take_of_length_le (by omega)]
          rw [HPF]
          obtain ⟨pb0, hpb⟩ : ∃ b, hasP l = b := ⟨_, rfl⟩
          rw [hpb]
          have HPB := hid hpb
          have B2 := hid I.out.below
          obtain ⟨g2, cap2, cur2, hv2, _⟩ := Z.out
          subst hv2
          have s0 : wr.cell? ⟨w.heap.size + 1, 0, none⟩ = some v0 := (R.out.st.below B2.out).cell 0
          clear hpb HPF
          go_wp2_with (first
            | (at_builtin; refine app_row (w0 := w) w.heap.size rfl (.tmp 39) (.tmp 41) _ _ _ 1 24 rfl Tryd.underlying45 info_cps rfl (by decide) _ k us [_] rfl rfl rfl (by simp [Value.oneCell']) (own_below R.out.o0 B2.out) (bt R.out.below B2.out) (bt R.out.below B2.out).size (by unfold maxLen; omega) (by omega) ?_; intro u0 w1 hown1 hg1 hb1
               obtain ⟨g3, cap3, hv3⟩ := Go.Joins.ownsRow_form hown1 (by omega)
               subst hv3
               have M := R.out.mid HK.out B2.out Z.out hown1 hg1 hb1
               have a0 : w1.cell? ⟨w.heap.size + 1, 0, none⟩ = some v0 := M.1.cell 0
               have a0f := M.1.frozen 0
               have M2 := hid M.2
               have s1 : (w1.setCell ⟨w.heap.size + 1, 0, none⟩ (.slice (some ⟨g3, 0, none⟩) (k + 1) cap3)).cell? ⟨w.heap.size + 1, 1, none⟩ = some v1 := M2.out.st.cell 1
               clear hown1 hg1 hb1 M)
            | (at_builtin; refine app_row (w0 := w) w.heap.size rfl (.tmp 45) (.tmp 47) _ _ _ 1 1 rfl Tryd.underlying46 info_bl rfl (by decide) _ k bs [.bool pb0] rfl rfl (Eq.trans (b := Value.slice (some ⟨w1.heap.size, 0, none⟩) 1 1) rfl (by simp)) (by simp [Value.oneCell']) M2.out.o1 M2.out.below M2.out.below.size (by unfold maxLen; omega) (by omega) ?_; intro u1 w4 hown4 hg4 hb4
               obtain ⟨g5, cap5, hv5⟩ := Go.Joins.ownsRow_form hown4 (by omega)
               subst hv5
               have M3 := M2.out.out HK.out (by rw [HPB.out]; exact hown4) hg4 hb4
               have b1 : w4.cell? ⟨w.heap.size + 1, 1, none⟩ = some v1 := M3.1.cell 1
               have b1f := M3.1.frozen 1
               have R1 := hid M3.2
               clear hown4 hg4 hb4 M3))
          go_roundw
          case rel => exact ⟨k + 1, _, _, _, _, by omega, by go_num, R1.out⟩
          case measure => simp [intOf]; omega
    · have hkN : k = L.length := by rw [← HN.out]; omega
      have R' := hid (show COut inc B w L L.length (w.heap.size + 1) v0 v1 us bs wo from hkN ▸ R.out)
      have F := hid (R'.out.fin (by have := H0.out; rw [HN.out] at this; exact this))
      obtain ⟨g3, cap3, hv3⟩ := Go.Joins.ownsRow_form R'.out.o0 (by have := H0.out; rw [HN.out] at this; exact this)
      obtain ⟨g5, cap5, hv5⟩ := Go.Joins.ownsRow_form R'.out.o1 (by have := H0.out; rw [HN.out] at this; exact this)
      have s0 : wo.cell? ⟨w.heap.size + 1, 0, none⟩ = some v0 := R'.out.st.cell 0
      have s1 : wo.cell? ⟨w.heap.size + 1, 1, none⟩ = some v1 := R'.out.st.cell 1
      have s2 : wo.cell? ⟨w.heap.size + 1, 2, none⟩ = some (.bool inc) := R'.out.st.cell 2
      have t0 : wo.cell? ⟨w.heap.size, 0, none⟩ = some (.slice none 0 0) := R'.out.res.cell 0
      have t1 : wo.cell? ⟨w.heap.size, 1, none⟩ = some (.slice none 0 0) := R'.out.res.cell 1
      have t2 : wo.cell? ⟨w.heap.size, 2, none⟩ = some (.bool false) := R'.out.res.cell 2
      have f0 := R'.out.res.frozen 0
      have f1 := R'.out.res.frozen 1
      have f2 := R'.out.res.frozen 2
      subst hv3 hv5
      clear hkN
      go_wp2_with fail
      exact bodyPost_ret (results_cell_row rfl _ _ w.heap.size 48 _ (0, 0) _ rfl F.out.2.1 Tryd.underlying48 rfl (by kernel_rfl)) rfl ⟨⟨_, _, rfl, F.out.1⟩, F.out.2.2⟩
end Go.Proofs.YtkohcmgckkenpaaDoor
