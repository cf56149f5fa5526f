/- The reference's and the law's looks at an instant and at a zone of whatever lists: what they answer, and how long the lists are where a zone is good. Walked. -/
import Derived.Test.YtcaabeocflfboaaTimeK
import Derived.LoopTactic
set_option linter.unusedVariables false
set_option linter.unusedSimpArgs false
namespace Go.Proofs.Ytcaabeocflfboaa
open Go.RowKit

/-- A list that came in: n cells from an address on, each of a kind. -/
def Sl (w : World) (ao : Option Addr) (n : Nat) (ok : Value → Prop) : Prop := ∀ i, i < n → ∃ a x, ao = some a ∧ w.cell? (a.add i) = some x ∧ ok x
def isI (x : Value) : Prop := ∃ k : Int, x = .int .i64 k
def isB (x : Value) : Prop := ∃ b : Bool, x = .bool b
theorem Sl.below {w w' : World} {ao : Option Addr} {n : Nat} {ok : Value → Prop} (h : Sl w ao n ok) (hb : Below w.heap.size w w') : Sl w' ao n ok := fun i hi => by
  obtain ⟨a, x, h1, h2, h3⟩ := h i hi
  exact ⟨a, x, h1, (hb.cell (World.block_lt_of_cell? w _ h2)).trans h2, h3⟩
/-- A zone of four lists. -/
abbrev zcells (o d h x : Option Addr) (n0 c0 n1 c1 n2 c2 n3 c3 : Nat) : Array Value := #[.slice o n0 c0, .slice d n1 c1, .slice h n2 c2, .slice x n3 c3]

/-- The same with the numbers, the truth values named. -/
def Ints (w : World) (ao : Option Addr) (n : Nat) (f : Nat → Int) : Prop := ∀ i, i < n → ∃ a, ao = some a ∧ w.cell? (a.add i) = some (.int .i64 (f i))
def Bols (w : World) (ao : Option Addr) (n : Nat) (f : Nat → Bool) : Prop := ∀ i, i < n → ∃ a, ao = some a ∧ w.cell? (a.add i) = some (.bool (f i))
theorem ints_of {w : World} {ao : Option Addr} {n : Nat} (h : Sl w ao n isI) : ∃ f, Ints w ao n f := by
  have h1 : ∀ i, ∃ k : Int, i < n → ∃ a, ao = some a ∧ w.cell? (a.add i) = some (.int .i64 k) := fun i => by
    by_cases hi : i < n
    · obtain ⟨a, x, h1, h2, k, rfl⟩ := h i hi
      exact ⟨k, fun _ => ⟨a, h1, h2⟩⟩
    · exact ⟨0, fun h => absurd h hi⟩
  exact ⟨fun i => Classical.choose (h1 i), fun i hi => Classical.choose_spec (h1 i) hi⟩
theorem bols_of {w : World} {ao : Option Addr} {n : Nat} (h : Sl w ao n isB) : ∃ f, Bols w ao n f := by
  have h1 : ∀ i, ∃ k : Bool, i < n → ∃ a, ao = some a ∧ w.cell? (a.add i) = some (.bool k) := fun i => by
    by_cases hi : i < n
    · obtain ⟨a, x, h1, h2, k, rfl⟩ := h i hi
      exact ⟨k, fun _ => ⟨a, h1, h2⟩⟩
    · exact ⟨false, fun h => absurd h hi⟩
  exact ⟨fun i => Classical.choose (h1 i), fun i hi => Classical.choose_spec (h1 i) hi⟩
theorem Ints.below {w w' : World} {ao : Option Addr} {n : Nat} {f : Nat → Int} (h : Ints w ao n f) (hb : Below w.heap.size w w') : Ints w' ao n f := fun i hi => by
  obtain ⟨a, h1, h2⟩ := h i hi
  exact ⟨a, h1, (hb.cell (World.block_lt_of_cell? w _ h2)).trans h2⟩
theorem Bols.below {w w' : World} {ao : Option Addr} {n : Nat} {f : Nat → Bool} (h : Bols w ao n f) (hb : Below w.heap.size w w') : Bols w' ao n f := fun i hi => by
  obtain ⟨a, h1, h2⟩ := h i hi
  exact ⟨a, h1, (hb.cell (World.block_lt_of_cell? w _ h2)).trans h2⟩

/-- A Bool that tells p where it is true. -/
def Says (e : Ending) (p : Prop) : Prop := ∃ b, e = .returned (.bool b) ∧ (b = true → p)

theorem fits_any (o d h x : Option Addr) (n0 c0 n1 c1 n2 c2 n3 c3 : Nat) (w : World) : Calls Try.prog 4 #[.agg (zcells o d h x n0 c0 n1 c1 n2 c2 n3 c3)] w fun e w' => (∃ b, e = .returned (.bool b)) ∧ Below w.heap.size w w' := by
  go_enter Try.func4, Try.ntmps4
  go_wp2
  all_goals
    go_ret
    exact ⟨⟨_, rfl⟩, by go_grown⟩

/-- A good instant. -/
def goodT (s n : Int) : Prop := -62135596800 ≤ s ∧ s ≤ 253402300799 ∧ 0 ≤ n ∧ n < 1000000000
theorem cronGood_any (s n : Int) (w : World) : Calls Try.prog 5 #[.agg (icells s n)] w fun e w' => Says e (goodT s n) ∧ Below w.heap.size w w' := by
  by_cases h1 : -62135596800 ≤ s
  · by_cases h2 : s ≤ 253402300799
    · by_cases h3 : 0 ≤ n
      · by_cases h4 : n < 1000000000
        · go_enter Try.func5, Try.ntmps5
          go_wp2
          go_ret
          exact ⟨⟨_, rfl, fun _ => ⟨h1, h2, h3, h4⟩⟩, by go_grown⟩
        · go_enter Try.func5, Try.ntmps5
          go_wp2
          go_ret
          exact ⟨⟨_, rfl, fun h => by cases h⟩, by go_grown⟩
      · go_enter Try.func5, Try.ntmps5
        go_wp2
        go_ret
        exact ⟨⟨_, rfl, fun h => by cases h⟩, by go_grown⟩
    · go_enter Try.func5, Try.ntmps5
      go_wp2
      go_ret
      exact ⟨⟨_, rfl, fun h => by cases h⟩, by go_grown⟩
  · go_enter Try.func5, Try.ntmps5
    go_wp2
    go_ret
    exact ⟨⟨_, rfl, fun h => by cases h⟩, by go_grown⟩

/-- How long a good zone's lists are. -/
def goodZ (n0 n1 n2 n3 : Nat) : Prop := (n0 = 0 ∧ n1 = 0 ∧ n2 = 0 ∧ n3 = 0) ∨ (0 < n0 ∧ n0 ≤ 64 ∧ n1 = n0 ∧ 0 < n2 ∧ n2 ≤ 4096 ∧ n3 = n2)

set_option maxHeartbeats 1600000 in
set_option maxRecDepth 100000 in
theorem gp_000 {P : Prop} (o d h x : Option Addr) (n0 c0 n1 c1 n2 c2 n3 c3 : Nat) (w : World) (h0 : n0 = 0) (h1 : n1 = 0) (h2 : n2 = 0) (h3 : n3 = 0) (hP : P) : Calls Try.prog 6 #[.agg (zcells o d h x n0 c0 n1 c1 n2 c2 n3 c3)] w fun e w' => Says e P ∧ Below w.heap.size w w' := by
  have z0 : ((n0 : Int) == 0) = true := by simp; omega
  have z1 : ((n1 : Int) == 0) = true := by simp; omega
  have z2 : ((n2 : Int) == 0) = true := by simp; omega
  have z3 : ((n3 : Int) == 0) = true := by simp; omega
  go_enter Try.func6, Try.ntmps6
  go_wp2
  go_ret
  exact ⟨⟨_, rfl, fun _ => hP⟩, by go_grown⟩

set_option maxHeartbeats 1600000 in
set_option maxRecDepth 100000 in
theorem gp_0d {P : Prop} (o d h x : Option Addr) (n0 c0 n1 c1 n2 c2 n3 c3 : Nat) (w : World) (h0 : n0 = 0) (h1 : ¬ n1 = 0) : Calls Try.prog 6 #[.agg (zcells o d h x n0 c0 n1 c1 n2 c2 n3 c3)] w fun e w' => Says e P ∧ Below w.heap.size w w' := by
  have z0 : ((n0 : Int) == 0) = true := by simp; omega
  have z1 : ((n1 : Int) == 0) = false := by rw [beq_eq_false_iff_ne]; omega
  go_enter Try.func6, Try.ntmps6
  go_wp2
  go_ret
  exact ⟨⟨_, rfl, fun h => by cases h⟩, by go_grown⟩

set_option maxHeartbeats 1600000 in
set_option maxRecDepth 100000 in
theorem gp_0h {P : Prop} (o d h x : Option Addr) (n0 c0 n1 c1 n2 c2 n3 c3 : Nat) (w : World) (h0 : n0 = 0) (h1 : n1 = 0) (h2 : ¬ n2 = 0) : Calls Try.prog 6 #[.agg (zcells o d h x n0 c0 n1 c1 n2 c2 n3 c3)] w fun e w' => Says e P ∧ Below w.heap.size w w' := by
  have z0 : ((n0 : Int) == 0) = true := by simp; omega
  have z1 : ((n1 : Int) == 0) = true := by simp; omega
  have z2 : ((n2 : Int) == 0) = false := by rw [beq_eq_false_iff_ne]; omega
  go_enter Try.func6, Try.ntmps6
  go_wp2
  go_ret
  exact ⟨⟨_, rfl, fun h => by cases h⟩, by go_grown⟩

set_option maxHeartbeats 1600000 in
set_option maxRecDepth 100000 in
theorem gp_0x {P : Prop} (o d h x : Option Addr) (n0 c0 n1 c1 n2 c2 n3 c3 : Nat) (w : World) (h0 : n0 = 0) (h1 : n1 = 0) (h2 : n2 = 0) (h3 : ¬ n3 = 0) : Calls Try.prog 6 #[.agg (zcells o d h x n0 c0 n1 c1 n2 c2 n3 c3)] w fun e w' => Says e P ∧ Below w.heap.size w w' := by
  have z0 : ((n0 : Int) == 0) = true := by simp; omega
  have z1 : ((n1 : Int) == 0) = true := by simp; omega
  have z2 : ((n2 : Int) == 0) = true := by simp; omega
  have z3 : ((n3 : Int) == 0) = false := by rw [beq_eq_false_iff_ne]; omega
  go_enter Try.func6, Try.ntmps6
  go_wp2
  go_ret
  exact ⟨⟨_, rfl, fun h => by cases h⟩, by go_grown⟩

set_option maxHeartbeats 1600000 in
set_option maxRecDepth 100000 in
theorem gp_o64 {P : Prop} (o d h x : Option Addr) (n0 c0 n1 c1 n2 c2 n3 c3 : Nat) (w : World) (h0 : ¬ n0 = 0) (h1 : ¬ n0 ≤ 64) : Calls Try.prog 6 #[.agg (zcells o d h x n0 c0 n1 c1 n2 c2 n3 c3)] w fun e w' => Says e P ∧ Below w.heap.size w w' := by
  have z0 : ((n0 : Int) == 0) = false := by rw [beq_eq_false_iff_ne]; omega
  have g : (64 : Int) < (n0 : Int) := by omega
  go_enter Try.func6, Try.ntmps6
  go_wp2
  go_ret
  exact ⟨⟨_, rfl, fun h => by cases h⟩, by go_grown⟩

set_option maxHeartbeats 1600000 in
set_option maxRecDepth 100000 in
theorem gp_d {P : Prop} (o d h x : Option Addr) (n0 c0 n1 c1 n2 c2 n3 c3 : Nat) (w : World) (h0 : ¬ n0 = 0) (h1 : n0 ≤ 64) (h2 : ¬ n1 = n0) : Calls Try.prog 6 #[.agg (zcells o d h x n0 c0 n1 c1 n2 c2 n3 c3)] w fun e w' => Says e P ∧ Below w.heap.size w w' := by
  have z0 : ((n0 : Int) == 0) = false := by rw [beq_eq_false_iff_ne]; omega
  have g : ¬ (64 : Int) < (n0 : Int) := by omega
  have e1 : ((n1 : Int) == (n0 : Int)) = false := by rw [beq_eq_false_iff_ne]; omega
  have e2 : ((n1 : Int) != (n0 : Int)) = true := by simp [bne, e1]
  go_enter Try.func6, Try.ntmps6
  go_wp2
  go_ret
  exact ⟨⟨_, rfl, fun h => by cases h⟩, by go_grown⟩

set_option maxHeartbeats 1600000 in
set_option maxRecDepth 100000 in
theorem gp_h0 {P : Prop} (o d h x : Option Addr) (n0 c0 n1 c1 n2 c2 n3 c3 : Nat) (w : World) (h0 : ¬ n0 = 0) (h1 : n0 ≤ 64) (h2 : n1 = n0) (h3 : n2 = 0) : Calls Try.prog 6 #[.agg (zcells o d h x n0 c0 n1 c1 n2 c2 n3 c3)] w fun e w' => Says e P ∧ Below w.heap.size w w' := by
  have z0 : ((n0 : Int) == 0) = false := by rw [beq_eq_false_iff_ne]; omega
  have g : ¬ (64 : Int) < (n0 : Int) := by omega
  have e2 : ((n1 : Int) != (n0 : Int)) = false := by simp; omega
  have z2 : ((n2 : Int) == 0) = true := by simp; omega
  go_enter Try.func6, Try.ntmps6
  go_wp2
  go_ret
  exact ⟨⟨_, rfl, fun h => by cases h⟩, by go_grown⟩

set_option maxHeartbeats 1600000 in
set_option maxRecDepth 100000 in
theorem gp_h4096 {P : Prop} (o d h x : Option Addr) (n0 c0 n1 c1 n2 c2 n3 c3 : Nat) (w : World) (h0 : ¬ n0 = 0) (h1 : n0 ≤ 64) (h2 : n1 = n0) (h3 : ¬ n2 = 0) (h4 : ¬ n2 ≤ 4096) : Calls Try.prog 6 #[.agg (zcells o d h x n0 c0 n1 c1 n2 c2 n3 c3)] w fun e w' => Says e P ∧ Below w.heap.size w w' := by
  have z0 : ((n0 : Int) == 0) = false := by rw [beq_eq_false_iff_ne]; omega
  have g : ¬ (64 : Int) < (n0 : Int) := by omega
  have e2 : ((n1 : Int) != (n0 : Int)) = false := by simp; omega
  have z2 : ((n2 : Int) == 0) = false := by rw [beq_eq_false_iff_ne]; omega
  have g2 : (4096 : Int) < (n2 : Int) := by omega
  go_enter Try.func6, Try.ntmps6
  go_wp2
  go_ret
  exact ⟨⟨_, rfl, fun h => by cases h⟩, by go_grown⟩

set_option maxHeartbeats 1600000 in
set_option maxRecDepth 100000 in
theorem gp_x {P : Prop} (o d h x : Option Addr) (n0 c0 n1 c1 n2 c2 n3 c3 : Nat) (w : World) (h0 : ¬ n0 = 0) (h1 : n0 ≤ 64) (h2 : n1 = n0) (h3 : ¬ n2 = 0) (h4 : n2 ≤ 4096) (h5 : ¬ n3 = n2) : Calls Try.prog 6 #[.agg (zcells o d h x n0 c0 n1 c1 n2 c2 n3 c3)] w fun e w' => Says e P ∧ Below w.heap.size w w' := by
  have z0 : ((n0 : Int) == 0) = false := by rw [beq_eq_false_iff_ne]; omega
  have g : ¬ (64 : Int) < (n0 : Int) := by omega
  have e2 : ((n1 : Int) != (n0 : Int)) = false := by simp; omega
  have z2 : ((n2 : Int) == 0) = false := by rw [beq_eq_false_iff_ne]; omega
  have g2 : ¬ (4096 : Int) < (n2 : Int) := by omega
  have e3 : ((n3 : Int) != (n2 : Int)) = true := by simp; omega
  go_enter Try.func6, Try.ntmps6
  go_wp2
  go_ret
  exact ⟨⟨_, rfl, fun h => by cases h⟩, by go_grown⟩

/-- What a good zone's lists hold. -/
def goodC (n0 n2 : Nat) (O W I : Nat → Int) : Prop := (∀ i, i < n0 → -86400 ≤ O i ∧ O i ≤ 86400) ∧ (0 < n2 → W 0 = -9223372036854775808) ∧ (∀ i, i < n2 → 0 ≤ I i ∧ I i < n0) ∧ (∀ i, i + 1 < n2 → W i < W (i + 1))
end Go.Proofs.Ytcaabeocflfboaa
