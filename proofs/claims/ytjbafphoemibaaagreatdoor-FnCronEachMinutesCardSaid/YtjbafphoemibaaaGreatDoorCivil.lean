/- The date and time of day of an instant on the clocks of a good zone. Walked. -/
import Derived.Test.YtjbafphoemibaaaGreatDoorClock
set_option linter.unusedVariables false
set_option linter.unusedSimpArgs false
namespace Go.Proofs.YtjbafphoemibaaaGreatDoor
open Go.RowKit

/-- A good zone's lists in memory. -/
structure ZIn (w : World) (o d h x : Option Addr) (n0 n1 n2 n3 : Nat) (O : Nat → Int) (D : Nat → Bool) (W I : Nat → Int) : Prop where
  good : goodZ n0 n1 n2 n3
  cont : goodC n0 n2 O W I
  off : Ints w o n0 O
  dst : Bols w d n1 D
  whn : Ints w h n2 W
  idx : Ints w x n3 I
theorem ZIn.below {w w' : World} {o d h x : Option Addr} {n0 n1 n2 n3 : Nat} {O : Nat → Int} {D : Nat → Bool} {W I : Nat → Int} (z : ZIn w o d h x n0 n1 n2 n3 O D W I) (hb : Below w.heap.size w w') : ZIn w' o d h x n0 n1 n2 n3 O D W I :=
  ⟨z.good, z.cont, z.off.below hb, z.dst.below hb, z.whn.below hb, z.idx.below hb⟩
theorem goodZ_sizes {n0 n1 n2 n3 : Nat} (h : goodZ n0 n1 n2 n3) : n0 ≤ 64 ∧ n2 ≤ 4096 ∧ n3 = n2 ∧ n1 = n0 := by
  rcases h with ⟨h0, h1, h2, h3⟩ | ⟨h0, h1, h2, h3, h4, h5⟩
  · exact ⟨by omega, by omega, by omega, by omega⟩
  · exact ⟨h1, h4, h5, h2⟩

end Go.Proofs.YtjbafphoemibaaaGreatDoor
