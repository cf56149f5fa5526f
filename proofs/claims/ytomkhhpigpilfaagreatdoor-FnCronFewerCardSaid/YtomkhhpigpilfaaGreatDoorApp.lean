/- One element appended to a row of the call's own; a row of texts that reads as a list. -/
import Derived.Test.YtomkhhpigpilfaaGreatDoorKit
import Derived.OwnWalk
import Derived.Laws.OwnMore
import Derived.Laws.MakeOwn
set_option linter.unusedVariables false
set_option linter.unusedSimpArgs false
namespace Go.Proofs.YtomkhhpigpilfaaGreatDoor
open Go.RowKit

theorem own_low {w : World} {base : Nat} {e : TypeId} {size n : Nat} {v : Value} {xs : List Value} (h : w.ownsRow base e size v n xs) (k : Nat) (hk : v.ownBlock = some k) : base ≤ k := (h.lt k hk).1

section
variable {P : Program} {ops : Array Oper} {rest : List Oper} {o : Oper} {a : Act} {Q : Exit → Act → World → Prop}
/-- 'append(v, y)', behind 'at_builtin': the world is the one in which the box of y was just laid. -/
theorem app_one {w0 W : World} (base : Nat) (hgd : o.guard = none) (s x : Operand) (t e : TypeId) (z : Value) (bytes : Nat)
    (ho : o.op = .call { callee := .builtin .append, args := #[s, x], argTypes := #[t, t] })
    (ht : P.underlying t = some (.slice e)) (hinfo : (P.info? e).map (fun i => (i.zero, i.size, i.bytes)) = some (some z, 1, bytes)) (hz : z.cells.size = 1)
    (v : Value) (xs : List Value) (y : Value) (hs : a.eval s = v) (hx : a.eval x = .slice (some ⟨W.heap.size, 0, none⟩) 1 1) (h1 : y.oneCell' = true)
    (HO : W.ownsRow base e 1 v xs.length xs) (HB : Below base w0 W) (hbase : base ≤ W.heap.size) (hm : xs.length + 1 ≤ maxLen) (hl : (xs.length + 1) * bytes ≤ 140737488355328)
    (h : ∀ v1 w1, w1.ownsRow base e 1 v1 (xs ++ [y]).length (xs ++ [y]) → Below base w0 w1 → wpList P ops Q rest (a.put o.dst v1) w1) :
    wpList P ops Q (o :: rest) a (W.alloc (.cells #[y] e)) := by
  obtain ⟨i0, hi, hzz⟩ := Option.map_eq_some_iff.1 hinfo
  simp only [Prod.mk.injEq] at hzz
  obtain ⟨hz0, hz1, hz2⟩ := hzz
  refine wpList_append_own (W.alloc (.cells #[y] e)) hgd s x t ho base e i0 z 1 bytes ht hi hz0 hz1 hz2 hz (by omega) v xs.length xs hs (HO.alloc _) ⟨W.heap.size, 0, none⟩ 1 1 [y] hx rfl ?_ (by simpa using h1) hm hl (by simp; omega) ?_
  · intro j u hu
    have hj : j = 0 := by
      rcases j with _ | j
      · rfl
      · simp at hu
    subst hj
    simp at hu
    subst hu
    rw [Addr.add_zero']
    exact (Blk.new W e #[y]).cell 0
  · intro v1 w1 hown hg _
    exact h v1 w1 (by simpa using hown) ((HB.alloc hbase _).grown hg (by simp; omega) (own_low HO))
end

/-- Texts in memory: cell i of block g holds the i-th. -/
def StrsAt (w : World) (g : Nat) (l : List ByteArray) : Prop := ∀ i x, l[i]? = some x → w.cell? ⟨g, i, none⟩ = some (.string x)

theorem StrsAt.below {w w' : World} {g : Nat} {l : List ByteArray} (h : StrsAt w g l) (hb : Below w.heap.size w w') : StrsAt w' g l := fun i x hx =>
  (hb.cell (World.block_lt_of_cell? w _ (h i x hx))).trans (h i x hx)

theorem strs_of_own {w : World} {base : Nat} {e : TypeId} {v : Value} {l : List ByteArray} (h : w.ownsRow base e 1 v l.length (l.map Value.string)) (hne : l ≠ []) :
    ∃ g c, v = .slice (some ⟨g, 0, none⟩) l.length c ∧ base ≤ g ∧ StrsAt w g l := by
  rcases h.2 with ⟨_, h0⟩ | ⟨g, cap, cur, rfl, hb, _⟩
  · exact absurd (List.length_eq_zero_iff.1 h0) hne
  · refine ⟨g, cap, rfl, hb, fun i x hx => ?_⟩
    have := h.cells (g := g) rfl i (.string x) (by simp [hx])
    have e : (⟨g, 0, none⟩ : Addr).add i = ⟨g, i, none⟩ := by unfold Addr.add; split <;> simp_all
    rwa [e] at this

end Go.Proofs.YtomkhhpigpilfaaGreatDoor
