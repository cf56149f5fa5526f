/- Arrays of Bools, any number of cells, kept whole: bcells n f. -/
import Derived.Test.YtomkhhpigpilfaaGreatDoorKit
import Derived.Laws.StructEq
import Derived.Deep.WholeRow
import Derived.Deep.MidRow
import Derived.Deep.Quiet
set_option linter.unusedVariables false
set_option linter.unusedSimpArgs false
namespace Go.Proofs.YtomkhhpigpilfaaGreatDoor
open Go.RowKit

/-- n cells, the i-th f's Bool at i. -/
def bcells (n : Nat) (f : Nat → Bool) : Array Value := ((List.range n).map fun i => Value.bool (f i)).toArray
/-- f, but b at i. -/
def put1 (f : Nat → Bool) (i : Nat) (b : Bool) : Nat → Bool := fun j => if j = i then b else f j
/-- f, but h in the m places from o on. -/
def putm (f : Nat → Bool) (o m : Nat) (h : Nat → Bool) : Nat → Bool := fun j => if o ≤ j ∧ j < o + m then h (j - o) else f j

section
variable {n m o i : Nat} {f h : Nat → Bool} {b : Bool} {w : World} {g : Nat} {t : TypeId}
theorem bcells_size : (bcells n f).size = n := by simp [bcells]
theorem bcells_len : (bcells n f).toList.length = n := by simp [bcells]
theorem bcells_get (hi : i < n) : (bcells n f)[i]? = some (.bool (f i)) := by simp [bcells, List.getElem?_map, List.getElem?_range hi]
theorem bcells_ext (e : ∀ i, i < n → f i = h i) : bcells n f = bcells n h := by
  unfold bcells
  congr 1
  apply List.map_congr_left
  intro i hi
  rw [e i (List.mem_range.1 hi)]
theorem bcells_of {cs : Array Value} (h1 : cs.size = n) (h2 : ∀ i, i < n → cs[i]? = some (.bool (f i))) : cs = bcells n f := by
  apply Array.ext_getElem?
  intro i
  by_cases hi : i < n
  · rw [h2 i hi, bcells_get hi]
  · rw [Array.getElem?_eq_none (by omega), Array.getElem?_eq_none (by rw [bcells_size]; omega)]
theorem bcells_set (hi : i < n) : (bcells n f).setIfInBounds i (.bool b) = bcells n (put1 f i b) := by
  apply bcells_of (by simp [bcells_size])
  intro j hj
  by_cases e : j = i
  · subst e
    rw [Array.getElem?_setIfInBounds_self_of_lt (by rw [bcells_size]; exact hj)]
    simp [put1]
  · rw [Array.getElem?_setIfInBounds_ne (Ne.symm e), bcells_get hj]
    simp [put1, e]
theorem bcells_one : (bcells n f).all (·.oneCell') = true := Array.all_eq_true_iff_forall_mem.2 (fun v hv => by
  obtain ⟨i, -, rfl⟩ := List.mem_map.1 (show v ∈ (List.range n).map fun i => Value.bool (f i) by simpa [bcells] using hv)
  rfl)
theorem Blk.range_b (hb : Blk w g t (bcells n f)) (hm : o + m ≤ n) : w.rangeAt g o (bcells m (fun i => f (o + i))).toList := fun j v hv => by
  have hj : j < m := by
    have := (List.getElem?_eq_some_iff.1 hv).1
    rwa [bcells_len] at this
  rw [hb.cell, bcells_get (by omega)]
  have : (bcells m (fun i => f (o + i)))[j]? = some v := by simpa using hv
  rw [bcells_get hj] at this
  exact this
theorem Blk.there_b (hb : Blk w g t (bcells n f)) (hm : o + m ≤ n) : w.there g o m := fun j hj => by
  constructor
  · rw [hb.cell, bcells_get (by omega)]
    rfl
  · exact hb.frozen _
theorem Blk.setCells_l {cs : Array Value} (hb : Blk w g t cs) : ∀ (vs : List Value) (o : Nat) (w : World) (cs : Array Value), Blk w g t cs → ∃ ds : Array Value, Blk (w.setCells g o vs) g t ds ∧ ds.size = cs.size ∧ ∀ i, i < cs.size → ds[i]? = if o ≤ i ∧ i < o + vs.length then vs[i - o]? else cs[i]?
  | [], o, w, cs, h => ⟨cs, h, rfl, fun i hi => by rw [if_neg (by simp)]⟩
  | v :: r, o, w, cs, h => by
    obtain ⟨ds, h1, h2, h3⟩ := Blk.setCells_l hb r (o + 1) (w.setCell ⟨g, o, none⟩ v) _ (h.set o v)
    refine ⟨ds, h1, by rw [h2]; simp, fun i hi => ?_⟩
    rw [h3 i (by simpa using hi)]
    by_cases e : i = o
    · subst e
      rw [if_neg (by omega), if_pos (by simp), Array.getElem?_setIfInBounds_self_of_lt hi]
      simp
    · rw [Array.getElem?_setIfInBounds_ne (Ne.symm e)]
      by_cases e2 : o + 1 ≤ i ∧ i < o + 1 + r.length
      · rw [if_pos e2, if_pos (by simp; omega), show i - o = (i - (o + 1)) + 1 by omega]
        simp
      · rw [if_neg e2, if_neg (by simp; omega)]
theorem Blk.putm_b (hb : Blk w g t (bcells n f)) (hm : o + m ≤ n) : Blk (w.setCells g o (bcells m h).toList) g t (bcells n (putm f o m h)) := by
  obtain ⟨ds, h1, h2, h3⟩ := Blk.setCells_l hb (bcells m h).toList o w _ hb
  rw [bcells_size] at h2 h3
  rwa [← bcells_of (f := putm f o m h) h2 fun i hi => by
    rw [h3 i hi, bcells_len]
    by_cases e : o ≤ i ∧ i < o + m
    · rw [if_pos e]
      have : (bcells m h)[i - o]? = some (.bool (h (i - o))) := bcells_get (by omega)
      simpa [putm, e] using this
    · rw [if_neg e, bcells_get hi]
      simp [putm, e]]
theorem Blk.setCells_other {cs : Array Value} {h : Nat} (hne : g ≠ h) : ∀ (vs : List Value) (o : Nat) (w : World), Blk w g t cs → Blk (w.setCells h o vs) g t cs
  | [], _, _, hb => hb
  | v :: r, o, w, hb => Blk.setCells_other hne r (o + 1) _ (by
    unfold Blk at hb ⊢
    simp [World.setCell, Array.getElem?_modify, hb, Ne.symm hne])
theorem below_setCells {B : Nat} {w : World} {g : Nat} (hg : B ≤ g) : ∀ (vs : List Value) (o : Nat) (w1 : World), Below B w w1 → Below B w (w1.setCells g o vs)
  | [], _, _, h => h
  | v :: r, o, w1, h => below_setCells hg r (o + 1) _ (below_set h hg o v)
end

/-- The load of a whole struct under a guard. -/
theorem wpList_load_g {P : Program} {ops : Array Oper} {rest : List Oper} {op : Oper} {a : Act} {w : World} {Q : Exit → Act → World → Prop} (hgd : Region.wanted op (yielded ops a.tmps) = true) (ty : TypeId) (x : Operand) (ho : op.op = .load ty x)
    (b o : Nat) (hx : a.eval x = .pointer (some ⟨b, o, none⟩)) (cs : List Value) (d : TypeDesc) (hc : w.rangeAt b o cs)
    (hu : P.underlying ty = some d) (hd : d.isRow = true) (hi : (P.info? ty).map (·.size) = some cs.length)
    (h : wpList P ops Q rest (a.put op.dst (.agg cs.toArray)) w) : wpList P ops Q (op :: rest) a w :=
  wpList_step fun K hK => by
    rw [if_pos hgd]
    exact wp_load_mid ty x ho b o hx cs d hc hu hd hi (hK _ _ h)
/-- The load of a whole struct among a drawn region's quiet operations. -/
theorem wpQuiet_load {P : Program} {ops : Array Oper} {C : World → Prop} {rest : List Oper} {op : Oper} {a : Act} {Q : Act → Prop} (hgd : Region.wanted op (yielded ops a.tmps) = true) (ty : TypeId) (x : Operand) (ho : op.op = .load ty x)
    (b o : Nat) (hx : a.eval x = .pointer (some ⟨b, o, none⟩)) (cs : List Value) (d : TypeDesc) (hc : ∀ w, C w → w.rangeAt b o cs)
    (hu : P.underlying ty = some d) (hd : d.isRow = true) (hi : (P.info? ty).map (·.size) = some cs.length)
    (h : wpQuiet P ops C Q rest (a.put op.dst (.agg cs.toArray))) : wpQuiet P ops C Q (op :: rest) a :=
  wpQuiet_step fun K hK => by
    rw [if_pos hgd]
    refine ⟨.agg cs.toArray, fun w hw => ?_, hK _ h⟩
    unfold Oper.quietAt execOp
    simp only [ho, hx, Instr.loadAt, Instr.sureAddr, Sem.run_bind, Sem.run_pure, Result.andThen_ok, run_loadVar_mid w b o ty cs d (hc w hw) hu hd hi]
    exact ⟨rfl, rfl⟩
section
variable {P : Program} (w : World)
theorem run_equalIn_bools (d : Nat) (t e : TypeId) (n : Nat) (ht : P.underlying t = some (.array n e)) (he : P.underlying e = some .bool) (hsz : ∀ w, (sizeOf e).run P w = .ok 1 w) (f h : Nat → Bool) :
    (Op.equalIn (d + 2) t (.agg (bcells n f)) (.agg (bcells n h))).run P w = .ok ((List.range n).all fun i => f i == h i) w := by
  rw [List.range_eq_range', Op.equalIn]
  simp only [Sem.run_bind, run_underlying ht, Result.andThen_ok, hsz, Std.Legacy.Range.forIn_eq_forIn_range', Std.Legacy.Range.size, Nat.sub_zero, Nat.add_sub_cancel, Nat.div_one]
  have hl : ∀ i ∈ List.range' 0 n 1, i < n := fun i hi => by simpa using (List.mem_range'_1.1 hi).2
  have gf : ∀ i, i < n → (bcells n f)[i * 1]? = some (.bool (f i)) := fun i hi => by rw [Nat.mul_one]; exact bcells_get hi
  have gh : ∀ i, i < n → (bcells n h)[i * 1]? = some (.bool (h i)) := fun i hi => by rw [Nat.mul_one]; exact bcells_get hi
  generalize bcells n f = xs at gf ⊢
  generalize bcells n h = ys at gh ⊢
  generalize List.range' 0 n 1 = l at hl ⊢
  induction l with
  | nil => simp
  | cons i l ih =>
    have hi : i < n := hl i (by simp)
    have px : (part e xs (i * 1)).run P w = .ok (.bool (f i)) w := by
      simp [part, isAgg, run_underlying he, by simpa using gf i hi]
    have py : (part e ys (i * 1)).run P w = .ok (.bool (h i)) w := by
      simp [part, isAgg, run_underlying he, by simpa using gh i hi]
    have pe : (Op.equalIn (d + 1) e (.bool (f i)) (.bool (h i))).run P w = .ok (f i == h i) w := by
      rw [Op.equalIn]
      simp only [Sem.run_bind, run_underlying he, Result.andThen_ok, Sem.run_pure]
    simp only [List.forIn_cons, Sem.run_bind, px, py, pe, Result.andThen_ok, List.all_cons]
    cases hb : (f i == h i)
    · simp
    · simp only [Bool.not_true, Bool.false_eq_true, if_false, Sem.run_pure, Result.andThen_ok, Bool.true_and]
      exact ih fun j hj => hl j (by simp [hj])
theorem run_eql_bools (t e : TypeId) (n : Nat) (ht : P.underlying t = some (.array n e)) (he : P.underlying e = some .bool) (hsz : ∀ w, (sizeOf e).run P w = .ok 1 w) (f h : Nat → Bool) :
    (binOp .eql t (.agg (bcells n f)) (.agg (bcells n h))).run P w = .ok (.bool ((List.range n).all fun i => f i == h i)) w := by
  rw [run_eql_struct, run_equalIn_bools w 9998 t e n ht he hsz f h]
  rfl
end
end Go.Proofs.YtomkhhpigpilfaaGreatDoor
