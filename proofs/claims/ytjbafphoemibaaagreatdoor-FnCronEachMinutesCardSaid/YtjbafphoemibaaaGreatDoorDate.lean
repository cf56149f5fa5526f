/- The reference's date of a day, and the date and time of day that clocks show. Walked. -/
import Derived.Test.YtjbafphoemibaaaGreatDoorCal
import Derived.Test.YtjbafphoemibaaaGreatDoorQTail
import Derived.Deep.DeepCutAuto
set_option linter.unusedVariables false
set_option linter.unusedSimpArgs false
namespace Go.Proofs.YtjbafphoemibaaaGreatDoor
open Go.RowKit

theorem there_b {w : World} {g : Nat} {t : TypeId} {cs : Array Value} (h : Blk w g t cs) (n : Nat) (hn : n ≤ cs.size) : w.there g 0 n := fun j hj => by
  constructor
  · rw [Nat.zero_add, h.cell j, Array.getElem?_eq_getElem (by omega)]
    rfl
  · exact h.frozen _
theorem set_b3 {w : World} {g : Nat} {t : TypeId} {x y z : Value} (h : Blk w g t #[x, y, z]) (a b c : Value) : Blk (w.setCells g 0 #[a, b, c].toList) g t #[a, b, c] := ((h.set 0 a).set 1 b).set 2 c
theorem below_b3 {B : Nat} {w w1 : World} (h : Below B w w1) {g : Nat} (hg : B ≤ g) (a b c : Value) : Below B w (w1.setCells g 0 #[a, b, c].toList) :=
  below_set (below_set (below_set h hg 0 _) hg 1 _) hg 2 _

/-- The days of the first k months of a year. -/
def msum (y : Int) : Nat → Int
  | 0 => 0
  | k + 1 => msum y k + md y ((k : Int) + 1)
/-- The day that a date gives back. -/
def dateIs (day Y M D : Int) : Prop := day = ys Y + msum Y (M - 1).toNat + (D - 1)

end Go.Proofs.YtjbafphoemibaaaGreatDoor
