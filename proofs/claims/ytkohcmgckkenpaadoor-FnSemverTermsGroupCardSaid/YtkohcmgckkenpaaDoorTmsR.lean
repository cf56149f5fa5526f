/- Lists of lists of terms out of an argument's reading; the walk as the row asks it. -/
import Derived.Test.YtkohcmgckkenpaaDoorTmsM
import Derived.OpenShut
import Derived.Deep.Slices
import Derived.ProofKit
set_option linter.unusedVariables false
set_option linter.unusedSimpArgs false
namespace Go.Proofs.YtkohcmgckkenpaaDoor
open Go.RowKit

section
open Go.ChangeShapes Go.WideShapes Go.ChangeAt Go.Deep
variable {H : Type} {enc : TypeId × Value → H} {P : Program} {w : World} {base : Nat} {spare : Nat → Bool} {held : Bool}
/-- A struct whose fields are one cell each, out of its cells. -/
theorem open_cellsn {t : TypeId} {fs : Array Field} {fuel : Nat} {cs : List Value} {x : DataW H × List MemPlace} (hs : P.underlying t = some (.struct fs)) (hone : oneCellFields P fs = true) (hC : P.cellsOf t = fs.size)
    (h : DataW.trod enc P w base spare held fuel t cs = some x) : cs.length = fs.size ∧ ∃ n, ∀ (j : Nat) (f : Field), fs[j]? = some f → ∃ (c : Value) (y : DataW H × List MemPlace), cs[j]? = some c ∧ DataW.trod enc P w base spare held n f.type [c] = some y := by
  obtain ⟨xs, n, _, hx, hl, hxl, hg⟩ := DataW.trod_struct hs h
  refine ⟨by rw [hl, hC], n, fun j f hj => ?_⟩
  have hjl : j < fs.size := (Array.getElem?_eq_some_iff.1 hj).1
  obtain ⟨ho, hk⟩ := hone_of hone j f hj
  have h1 := hg j f hj
  rw [ho, hk] at h1
  have e1 : (cs.drop j).take 1 = [cs[j]'(by omega)] := by
    rw [List.drop_eq_getElem_cons (by omega)]
    rfl
  rw [e1] at h1
  have e2 : xs[j]? = some (xs[j]'(by omega)) := List.getElem?_eq_getElem (by omega)
  exact ⟨_, _, List.getElem?_eq_getElem (by omega), h1.trans e2⟩

/-- A term of a reading. -/
def TmOk (t : Tm) : Prop := t.p.size ≤ maxLen ∧ 0 ≤ t.a ∧ 0 ≤ t.b
theorem open_term {fuel : Nat} {cs : List Value} {x : DataW H × List MemPlace} (h : DataW.trod enc Tryd.prog w base spare held fuel 30 cs = some x) : ∃ t : Tm, cs = (tm6 t).toList ∧ TmOk t := by
  obtain ⟨hl, n, hg⟩ := open_cellsn Tryd.underlying30 (by kernel_rfl) (by kernel_rfl) h
  obtain ⟨c0, y0, e0, h0⟩ := hg 0 _ rfl
  obtain ⟨c1, y1, e1, h1⟩ := hg 1 _ rfl
  obtain ⟨c2, y2, e2, h2⟩ := hg 2 _ rfl
  obtain ⟨c3, y3, e3, h3⟩ := hg 3 _ rfl
  obtain ⟨c4, y4, e4, h4⟩ := hg 4 _ rfl
  obtain ⟨c5, y5, e5, h5⟩ := hg 5 _ rfl
  obtain ⟨o, q0, _, w0⟩ := DataW.trod_int Tryd.underlying3 h0
  obtain ⟨k, q1, _, w1⟩ := DataW.trod_int Tryd.underlying3 h1
  obtain ⟨a, q2, _, w2⟩ := DataW.trod_int Tryd.underlying23 h2
  obtain ⟨b, q3, _, w3⟩ := DataW.trod_int Tryd.underlying23 h3
  obtain ⟨c, q4, _, w4⟩ := DataW.trod_int Tryd.underlying23 h4
  obtain ⟨p, q5, _, w5⟩ := DataW.trod_string Tryd.underlying9 h5
  simp only [List.cons.injEq, and_true] at q0 q1 q2 q3 q4 q5
  subst q0 q1 q2 q3 q4 q5
  refine ⟨⟨o, k, a, b, c, p⟩, ?_, w5, (wf_u64 w2).1, (wf_u64 w3).1⟩
  match cs, hl with
  | [d0, d1, d2, d3, d4, d5], _ =>
    simp only [List.getElem?_cons_zero, List.getElem?_cons_succ, Option.some.injEq] at e0 e1 e2 e3 e4 e5
    subst e0 e1 e2 e3 e4 e5
    rfl

theorem open_tl {fuel : Nat} {c : Value} {x : DataW H × List MemPlace} (h : DataW.trod enc Tryd.prog w base spare held fuel 32 [c] = some x) : ∃ bo l cp, c = .slice bo l.length cp ∧ TL w bo l ∧ ∀ t ∈ l, TmOk t := by
  rcases open_slice Tryd.underlying32 h with ⟨h0, _⟩ | ⟨a, len, cap, m, n, D, Pl, h0, _, _, _, hm, _, hx⟩
  · simp only [List.cons.injEq, and_true] at h0
    exact ⟨none, [], 0, h0, fun j t hj => by simp at hj, fun t ht => by cases ht⟩
  · simp only [List.cons.injEq, and_true] at h0
    have hle : len ≤ m := by rw [hm]; split <;> first | omega | assumption | exact Nat.le_refl _
    have hC : Tryd.prog.cellsOf 30 = 6 := by kernel_rfl
    rw [hC] at hx
    have key : ∀ i, ∃ t : Tm, i < len → TmAt w (a.add (i * 6)) t ∧ TmOk t := fun i => by
      by_cases hi : i < len
      · obtain ⟨cs', h1, h2⟩ := hx i (by omega)
        obtain ⟨t, rfl, ht⟩ := open_term h2
        obtain ⟨_, hl, hc⟩ := World.cells?_some h1
        refine ⟨t, fun _ => ⟨TmAt.of fun q v hq => ?_, ht⟩⟩
        have hq6 : q < 6 := by
          have := (Array.getElem?_eq_some_iff.1 hq).1
          exact this
        rw [hc q hq6]
        simpa using hq
      · exact ⟨⟨0, 0, 0, 0, 0, ByteArray.empty⟩, fun h => absurd h hi⟩
    obtain ⟨f, hf⟩ := Classical.axiomOfChoice key
    refine ⟨some a, (List.range len).map f, cap, by rw [h0]; simp, fun j t hj => ?_, fun t ht => ?_⟩
    · rw [List.getElem?_map] at hj
      have hlt : j < len := by
        rcases Nat.lt_or_ge j len with h | h
        · exact h
        · rw [List.getElem?_eq_none (by simpa using h)] at hj
          cases hj
      rw [List.getElem?_range hlt] at hj
      obtain rfl : f j = t := by simpa using hj
      exact ⟨a, rfl, (hf j hlt).1⟩
    · obtain ⟨j, hj, rfl⟩ := List.mem_map.1 ht
      exact (hf j (List.mem_range.1 hj)).2

set_option maxRecDepth 100000 in
theorem open_ll {r : Reach} {b0 : Nat} {v : Value} {d : DataW H} {p : List MemPlace} (hv : Value.okWide Tryd.prog w r b0 22 v) (h : DataW.Trod enc Tryd.prog w base spare held 22 v d p) :
    ∃ ao L cp, v = .slice ao L.length cp ∧ LL w ao L ∧ ∀ l ∈ L, ∀ t ∈ l, TmOk t := by
  obtain ⟨fuel, hf⟩ := h
  unfold Value.okWide at hv
  simp only [Tryd.underlying22] at hv
  unfold Cell.okWide at hv
  cases v <;> simp [Cell.ok, Tryd.underlying22] at hv
  rename_i so sl sc
  rcases open_slice1 (cs := [.slice so sl sc]) Tryd.underlying22 (by kernel_rfl) hf with ⟨h0, _⟩ | ⟨a, len, cap, m, n, V, D, Pl, h0, _, _, _, hm, _, hx⟩
  · simp only [List.cons.injEq, and_true] at h0
    exact ⟨none, [], 0, h0, fun j t hj => by simp at hj, fun t ht => by cases ht⟩
  · simp only [List.cons.injEq, and_true] at h0
    have hle : len ≤ m := by rw [hm]; split <;> first | omega | assumption | exact Nat.le_refl _
    have key : ∀ i, ∃ y : List Tm, i < len → (∃ bo cp, w.cell? (a.add i) = some (.slice bo y.length cp) ∧ TL w bo y) ∧ ∀ t ∈ y, TmOk t := fun i => by
      by_cases hi : i < len
      · obtain ⟨h1, h2⟩ := hx i (by omega)
        obtain ⟨bo, l, cp, e, hT, hk⟩ := open_tl h2
        exact ⟨l, fun _ => ⟨⟨bo, cp, by rw [h1, e], hT⟩, hk⟩⟩
      · exact ⟨[], fun h => absurd h hi⟩
    obtain ⟨f, hf⟩ := Classical.axiomOfChoice key
    refine ⟨some a, (List.range len).map f, cap, by rw [h0]; simp, fun j l hj => ?_, fun l hl => ?_⟩
    · rw [List.getElem?_map] at hj
      have hlt : j < len := by
        rcases Nat.lt_or_ge j len with h | h
        · exact h
        · rw [List.getElem?_eq_none (by simpa using h)] at hj
          cases hj
      rw [List.getElem?_range hlt] at hj
      obtain rfl : f j = l := by simpa using hj
      obtain ⟨⟨bo, cp, h1, h2⟩, _⟩ := hf j hlt
      exact ⟨a, bo, cp, rfl, h1, h2⟩
    · obtain ⟨j, hj, rfl⟩ := List.mem_map.1 hl
      exact (hf j (List.mem_range.1 hj)).2
end

theorem fnSemverTermsGroup_walk (ao : Option Addr) (C : List (List Tm)) (cp : Nat) (a b c : Int) (p m : ByteArray) (w : World) (hC : LL w ao C ∧ ∀ l ∈ C, ∀ t ∈ l, TmOk t) (ha : (Lit.int .u64 a).wf = true) (hb : (Lit.int .u64 b).wf = true) (_ : (Lit.int .u64 c).wf = true) (hp : p.size ≤ maxLen) (hm : m.size ≤ maxLen) (hv : Vars w) :
    Calls Tryd.prog 3 #[.slice ao C.length cp, .agg #[.int .u64 a, .int .u64 b, .int .u64 c, .string p, .string m]] w fun e w' => e = .returned (.bool true) ∧ Below w.heap.size w w' :=
  group_core ao C cp a b c p m w hC.1 hC.2 hp hm (wf_u64 ha).1 (wf_u64 hb).1 hv
end Go.Proofs.YtkohcmgckkenpaaDoor
