/- The reference's and the law's looks at an instant and at a zone of whatever lists: what they answer, and how long the lists are where a zone is good. Walked. -/
import Derived.Test.YtjbafphoemibaaaGreatDoorTimeK
import Derived.LoopTactic
import Derived.BigQuiet
import Derived.Deep.DeepCutAuto
set_option linter.unusedVariables false
set_option linter.unusedSimpArgs false
namespace Go.Proofs.YtjbafphoemibaaaGreatDoor
open Go.RowKit

/-- A list that came in: n cells from an address on, each of a kind. -/
def Sl (w : World) (ao : Option Addr) (n : Nat) (ok : Value → Prop) : Prop := ∀ i, i < n → ∃ a x, ao = some a ∧ w.cell? (a.add i) = some x ∧ ok x
def isI (x : Value) : Prop := ∃ k : Int, x = .int .i64 k
def isB (x : Value) : Prop := ∃ b : Bool, x = .bool b
theorem Sl.below {w w' : World} {ao : Option Addr} {n : Nat} {ok : Value → Prop} (h : Sl w ao n ok) (hb : Below w.heap.size w w') : Sl w' ao n ok := fun i hi => by
  obtain ⟨a, x, h1, h2, h3⟩ := h i hi
  exact ⟨a, x, h1, (hb.cell (World.block_lt_of_cell? w _ h2)).trans h2, h3⟩
/-- A zone of four lists. -/
abbrev zcells (o d h x : Option Addr) (n0 c0 n1 c1 n2 c2 n3 c3 : Nat) : Array Value := #[.slice o n0 c0, .slice d n1 c1, .slice h n2 c2, .slice x n3 c3]

/-- The same with the numbers, the truth values named. -/
def Ints (w : World) (ao : Option Addr) (n : Nat) (f : Nat → Int) : Prop := ∀ i, i < n → ∃ a, ao = some a ∧ w.cell? (a.add i) = some (.int .i64 (f i))
def Bols (w : World) (ao : Option Addr) (n : Nat) (f : Nat → Bool) : Prop := ∀ i, i < n → ∃ a, ao = some a ∧ w.cell? (a.add i) = some (.bool (f i))
theorem ints_of {w : World} {ao : Option Addr} {n : Nat} (h : Sl w ao n isI) : ∃ f, Ints w ao n f := by
  have h1 : ∀ i, ∃ k : Int, i < n → ∃ a, ao = some a ∧ w.cell? (a.add i) = some (.int .i64 k) := fun i => by
    by_cases hi : i < n
    · obtain ⟨a, x, h1, h2, k, rfl⟩ := h i hi
      exact ⟨k, fun _ => ⟨a, h1, h2⟩⟩
    · exact ⟨0, fun h => absurd h hi⟩
  exact ⟨fun i => Classical.choose (h1 i), fun i hi => Classical.choose_spec (h1 i) hi⟩
theorem bols_of {w : World} {ao : Option Addr} {n : Nat} (h : Sl w ao n isB) : ∃ f, Bols w ao n f := by
  have h1 : ∀ i, ∃ k : Bool, i < n → ∃ a, ao = some a ∧ w.cell? (a.add i) = some (.bool k) := fun i => by
    by_cases hi : i < n
    · obtain ⟨a, x, h1, h2, k, rfl⟩ := h i hi
      exact ⟨k, fun _ => ⟨a, h1, h2⟩⟩
    · exact ⟨false, fun h => absurd h hi⟩
  exact ⟨fun i => Classical.choose (h1 i), fun i hi => Classical.choose_spec (h1 i) hi⟩
theorem Ints.below {w w' : World} {ao : Option Addr} {n : Nat} {f : Nat → Int} (h : Ints w ao n f) (hb : Below w.heap.size w w') : Ints w' ao n f := fun i hi => by
  obtain ⟨a, h1, h2⟩ := h i hi
  exact ⟨a, h1, (hb.cell (World.block_lt_of_cell? w _ h2)).trans h2⟩
theorem Bols.below {w w' : World} {ao : Option Addr} {n : Nat} {f : Nat → Bool} (h : Bols w ao n f) (hb : Below w.heap.size w w') : Bols w' ao n f := fun i hi => by
  obtain ⟨a, h1, h2⟩ := h i hi
  exact ⟨a, h1, (hb.cell (World.block_lt_of_cell? w _ h2)).trans h2⟩

/-- A Bool that tells p where it is true. -/
def Says (e : Ending) (p : Prop) : Prop := ∃ b, e = .returned (.bool b) ∧ (b = true → p)

/-- A good instant. -/
def goodT (s n : Int) : Prop := -62135596800 ≤ s ∧ s ≤ 253402300799 ∧ 0 ≤ n ∧ n < 1000000000
theorem cronGood_any (s n : Int) (w : World) : Calls Tryz.prog 4 #[.agg (icells s n)] w fun e w' => Says e (goodT s n) ∧ Below w.heap.size w w' := by
  by_cases h1 : -62135596800 ≤ s
  · by_cases h2 : s ≤ 253402300799
    · by_cases h3 : 0 ≤ n
      · by_cases h4 : n < 1000000000
        · go_enter Tryz.func4, Tryz.ntmps4
          go_wp2
          go_ret
          exact ⟨⟨_, rfl, fun _ => ⟨h1, h2, h3, h4⟩⟩, by go_grown⟩
        · go_enter Tryz.func4, Tryz.ntmps4
          go_wp2
          go_ret
          exact ⟨⟨_, rfl, fun h => by cases h⟩, by go_grown⟩
      · go_enter Tryz.func4, Tryz.ntmps4
        go_wp2
        go_ret
        exact ⟨⟨_, rfl, fun h => by cases h⟩, by go_grown⟩
    · go_enter Tryz.func4, Tryz.ntmps4
      go_wp2
      go_ret
      exact ⟨⟨_, rfl, fun h => by cases h⟩, by go_grown⟩
  · go_enter Tryz.func4, Tryz.ntmps4
    go_wp2
    go_ret
    exact ⟨⟨_, rfl, fun h => by cases h⟩, by go_grown⟩

/-- How long a good zone's lists are. -/
def goodZ (n0 n1 n2 n3 : Nat) : Prop := (n0 = 0 ∧ n1 = 0 ∧ n2 = 0 ∧ n3 = 0) ∨ (0 < n0 ∧ n0 ≤ 64 ∧ n1 = n0 ∧ 0 < n2 ∧ n2 ≤ 4096 ∧ n3 = n2)

/-- What a good zone's lists hold. -/
def goodC (n0 n2 : Nat) (O W I : Nat → Int) : Prop := (∀ i, i < n0 → -86400 ≤ O i ∧ O i ≤ 86400) ∧ (0 < n2 → W 0 = -9223372036854775808) ∧ (∀ i, i < n2 → 0 ≤ I i ∧ I i < n0) ∧ (∀ i, i + 1 < n2 → W i < W (i + 1))
end Go.Proofs.YtjbafphoemibaaaGreatDoor
