/- Small words that the walks share: old cells, frozen marks and a known block behind a call that makes memory. -/
import Derived.Test.YtomkhhpigpilfaaGreatDoorProg
import Derived.Handy
import Derived.Laws.Rows
import Derived.Deep.Fields
import Derived.Deep.Slices
import Derived.ProofKit
import Derived.Laws.Cover1
set_option linter.unusedVariables false
set_option linter.unusedSimpArgs false
namespace Go.Proofs.YtomkhhpigpilfaaGreatDoor
open Go.RowKit

theorem ret_b {a b : Bool} (h : a = b) : Ending.returned (.bool a) = .returned (.bool b) := by rw [h]
theorem ret_i {k : IntKind} {a b : Int} (h : a = b) : Ending.returned (.int k a) = .returned (.int k b) := by rw [h]
theorem ret_s {a b : ByteArray} (h : a = b) : Ending.returned (.string a) = .returned (.string b) := by rw [h]

/-- A fact kept from the walk's simp. -/
theorem hid {p : Prop} (h : p) : Hid p := h

theorem bcell {W w1 : World} (hb : Below W.heap.size W w1) :
    (∀ b o, b < W.heap.size → w1.cell? ⟨b, o, none⟩ = W.cell? ⟨b, o, none⟩) ∧ (∀ b o, b < W.heap.size → w1.frozen? ⟨b, o, none⟩ = W.frozen? ⟨b, o, none⟩) :=
  ⟨fun b o h => hb.cell (p := ⟨b, o, none⟩) h, fun b o h => hb.frozen (p := ⟨b, o, none⟩) h⟩

/-- Block g is just the cells cs of element type t, none of them frozen. -/
def Blk (w : World) (g : Nat) (t : TypeId) (cs : Array Value) : Prop := w.heap[g]? = some (.cells cs t (0, 0))

section
variable {w w' : World} {g : Nat} {t : TypeId} {cs : Array Value}
theorem Blk.lt (h : Blk w g t cs) : g < w.heap.size := (Array.getElem?_eq_some_iff.1 h).1
theorem Blk.cell (h : Blk w g t cs) (i : Nat) : w.cell? ⟨g, i, none⟩ = cs[i]? := cell_of_row w g i cs t (0, 0) h
theorem Blk.frozen (h : Blk w g t cs) (i : Nat) : w.frozen? ⟨g, i, none⟩ = false := by
  unfold Blk at h
  simp [World.frozen?, h]
theorem Blk.new (w : World) (t : TypeId) (cs : Array Value) : Blk (w.alloc (.cells cs t)) w.heap.size t cs := heap_alloc_new w _
theorem Blk.alloc (h : Blk w g t cs) (o : Obj) : Blk (w.alloc o) g t cs := (Below.heap_alloc w o g h.lt).trans h
theorem Blk.set (h : Blk w g t cs) (i : Nat) (u : Value) : Blk (w.setCell ⟨g, i, none⟩ u) g t (cs.setIfInBounds i u) := by
  unfold Blk at h ⊢
  simp [World.setCell, Array.getElem?_modify, h]
theorem Blk.below (h : Blk w g t cs) (hb : Below w.heap.size w w') : Blk w' g t cs := (hb.block g h.lt).trans h
end

theorem below_set {B : Nat} {w w1 : World} (h : Below B w w1) {g : Nat} (hg : B ≤ g) (i : Nat) (u : Value) : Below B w (w1.setCell ⟨g, i, none⟩ u) := h.setCell (p := ⟨g, i, none⟩) hg u

section
open Go.ChangeShapes Go.WideShapes Go.Deep
variable {H : Type} {enc : TypeId × Value → H} {P : Program} {w : World} {base : Nat} {spare : Nat → Bool} {held : Bool}
/-- A struct by value whose fields are one cell each, however many. -/
theorem open_aggn {r : Reach} {b0 : Nat} {t : TypeId} {fs : Array Field} {v : Value} {d : DataW H} {p : List MemPlace} (hs : P.underlying t = some (.struct fs)) (hone : oneCellFields P fs = true) (hC : P.cellsOf t = fs.size)
    (hv : Value.okWide P w r b0 t v) (h : DataW.Trod enc P w base spare held t v d p) :
    ∃ (l : List Value) (n : Nat), v = .agg l.toArray ∧ l.length = fs.size ∧
      ∀ (j : Nat) (f : Field), fs[j]? = some f → ∃ (c : Value) (y : DataW H × List MemPlace), l[j]? = some c ∧ DataW.trod enc P w base spare held n f.type [c] = some y := by
  obtain ⟨cs, rfl, hsz⟩ := okWide_struct hs hv
  obtain ⟨l⟩ := cs
  have hlen : l.length = fs.size := by rw [← hC, ← hsz]; rfl
  obtain ⟨fuel, hf⟩ := h
  obtain ⟨xs, n, _, hx, _, hxl, hg⟩ := DataW.trod_struct hs hf
  refine ⟨l, n, rfl, hlen, fun j f hj => ?_⟩
  have hjl : j < fs.size := (Array.getElem?_eq_some_iff.1 hj).1
  obtain ⟨ho, hk⟩ := hone_of hone j f hj
  have h1 := hg j f hj
  rw [ho, hk] at h1
  have e1 : ((Value.agg l.toArray).cells.toList.drop j).take 1 = [l[j]'(by omega)] := by
    show (l.drop j).take 1 = _
    rw [List.drop_eq_getElem_cons (by omega)]
    rfl
  rw [e1] at h1
  have e2 : xs[j]? = some (xs[j]'(by omega)) := List.getElem?_eq_getElem (by omega)
  exact ⟨_, _, List.getElem?_eq_getElem (by omega), h1.trans e2⟩
end

/-- A number of its kind lies between the kind's ends. -/
theorem wf_i64 {a : Int} (h : (Lit.int .i64 a).wf = true) : -9223372036854775808 ≤ a ∧ a ≤ 9223372036854775807 := by
  simp only [Lit.wf, IntKind.min, IntKind.max, IntKind.signed, IntKind.bits, Bool.and_eq_true, decide_eq_true_eq, if_true] at h
  omega
theorem wf_u64 {a : Int} (h : (Lit.int .u64 a).wf = true) : 0 ≤ a ∧ a ≤ 18446744073709551615 := by
  simp only [Lit.wf, IntKind.min, IntKind.max, IntKind.signed, IntKind.bits, Bool.and_eq_true, decide_eq_true_eq] at h
  simp at h
  omega

end Go.Proofs.YtomkhhpigpilfaaGreatDoor
