/- A drawn region of a load, two calls, an alloc and a store of eight cells: what holds behind each of its operations. -/
import Derived.Test.YtfmagbkcfeckhaaLawC
import Derived.Test.YtfmagbkcfeckhaaInv
set_option linter.unusedVariables false
set_option linter.unusedSimpArgs false
namespace Go.Proofs.Ytfmagbkcfeckhaa
open Go.RowKit

theorem gotNew {got : Array Bool} {i : Nat} (h : got[i]? = some false) : (got.setIfInBounds i true).getD i false = true := by
  have : i < got.size := (Array.getElem?_eq_some_iff.1 h).1
  simp [Array.getD_eq_getD_getElem?, Array.getElem?_setIfInBounds, this]
theorem gotNot {got : Array Bool} {i : Nat} (h : got[i]? = some false) (h2 : got.getD i false = true) : False := by
  rw [Array.getD_eq_getD_getElem?, h] at h2
  cases h2
/-- A block for a date and time, laid (b) or not. -/
def LieV (w : World) (B0 : Nat) (T : TypeId) (V : Array Value) (x : Value) (b : Bool) : Prop :=
  ∃ g, x = .pointer (some ⟨g, 0, none⟩) ∧ B0 ≤ g ∧ (∃ y0 y1 y2 y3 y4 y5 y6 y7, Blk w g T #[y0, y1, y2, y3, y4, y5, y6, y7]) ∧ (b = true → Blk w g T V)
theorem LieV.keep {w w' : World} {B0 : Nat} {T : TypeId} {V : Array Value} {x : Value} {b b' : Bool} (h : LieV w B0 T V x b) (hbb : b' = b) (hk : ∀ g cs, Blk w g T cs → Blk w' g T cs) : LieV w' B0 T V x b' := by
  subst hbb
  obtain ⟨g, h0, h1, ⟨y0, y1, y2, y3, y4, y5, y6, y7, h2⟩, h3⟩ := h
  exact ⟨g, h0, h1, ⟨y0, y1, y2, y3, y4, y5, y6, y7, hk _ _ h2⟩, fun e => hk _ _ (h3 e)⟩
def J6 (F : Value → Value → Value → Value → Act) (B0 : Nat) (W0 : World) (ti zi V : Array Value) (T : TypeId) (a0 : Act) (w0 : World) (got : Array Bool) (a : Act) (w : World) : Prop :=
  ∃ x34 x35 x36 x7 : Value, a = F x34 x35 x36 x7 ∧ Below B0 W0 w ∧ B0 ≤ w.heap.size ∧
    (got.getD 0 false = true → x34 = .agg ti) ∧ (got.getD 1 false = true → x35 = .agg zi) ∧ (got.getD 2 false = true → x36 = .agg V) ∧
    (got.getD 3 false = true → LieV w B0 T V x7 (got.getD 4 false)) ∧ (got.getD 4 false = true → got.getD 3 false = true)
end Go.Proofs.Ytfmagbkcfeckhaa
