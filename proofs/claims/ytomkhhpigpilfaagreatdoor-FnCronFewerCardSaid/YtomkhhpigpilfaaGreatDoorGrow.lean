/- Worlds that have grown: a walk whose calls make memory of their own, in whatever order. -/
import Derived.Test.YtomkhhpigpilfaaGreatDoorKit
import Derived.Lib.QuietBelow
import Derived.BigQuiet
set_option linter.unusedVariables false
set_option linter.unusedSimpArgs false
namespace Go.Proofs.YtomkhhpigpilfaaGreatDoor
open Go.RowKit
open Go.Sort (grow grow_empty)

theorem gr_start {P : Program} {f : FuncId} {args : Array Value} {w : World} {R : Ending → World → Prop} (h : ∀ d os, Calls P f args (grow (redrawn w d) os) R) : Calls P f args w R := by
  have h1 := h w.drawn #[]
  rw [grow_empty] at h1
  exact h1

/-- A region that draws, in a world of the class: walked once, in the order of the text. -/
theorem wp_region_gr {P : Program} {id : Nat} {Q : Exit → Act → World → Prop} {a : Act} {w : World} {d : Nat} {os : Array Obj} {l : List Oper} (hm : P.follows .mixedOrders = true) (hB : Region.lexB .any l.toArray = true)
    (h : wpQuiet P l.toArray (fun w' => ∃ p : Regrown, w' = grow (redrawn w p.d) p.os) (fun a' => ∀ w', (∃ p : Regrown, w' = grow (redrawn w p.d) p.os) → Q .normal a' w') l a) : (Code.region id l.toArray true).wp P Q a (grow (redrawn w d) os) :=
  wp_region_quiet (C := fun w' => ∃ p : Regrown, w' = grow (redrawn w p.d) p.os) hm hB ⟨⟨d + 1, os⟩, rfl⟩ (by simpa using h)

theorem gr_of {w w' : World} {d : Nat} {os : Array Obj} (hb : Below (grow (redrawn w d) os).heap.size (grow (redrawn w d) os) w') : ∃ p : Regrown, w' = grow (redrawn w p.d) p.os :=
  regrown_of_below ((below_regrown w d os).trans (hb.mono (below_regrown w d os).size))

/-- A call behind which the world is one of the class. -/
theorem Calls.gr {P : Program} {f : FuncId} {args : Array Value} {w : World} {d : Nat} {os : Array Obj} {v : Value}
    (h : Calls P f args (grow (redrawn w d) os) fun e w' => e = .returned v ∧ Below (grow (redrawn w d) os).heap.size (grow (redrawn w d) os) w') : Calls P f args (grow (redrawn w d) os) fun e w'' => e = .returned v ∧ ∃ p : Regrown, w'' = grow (redrawn w p.d) p.os :=
  h.mono fun _ _ ⟨he, hb⟩ => ⟨he, gr_of hb⟩
/-- .. that leaves the world alone. -/
theorem Calls.gr_same {P : Program} {f : FuncId} {args : Array Value} {w : World} {d : Nat} {os : Array Obj} {v : Value}
    (h : Calls P f args (grow (redrawn w d) os) fun e w' => e = .returned v ∧ grow (redrawn w d) os = w') : Calls P f args (grow (redrawn w d) os) fun e w'' => e = .returned v ∧ ∃ p : Regrown, w'' = grow (redrawn w p.d) p.os :=
  h.mono fun _ _ ⟨he, hb⟩ => ⟨he, ⟨d, os⟩, hb.symm⟩
/-- .. that makes one block. -/
theorem Calls.gr_box {P : Program} {f : FuncId} {args : Array Value} {w : World} {d : Nat} {os : Array Obj} {v : Value} {o : Obj}
    (h : Calls P f args (grow (redrawn w d) os) fun e w' => e = .returned v ∧ w' = (grow (redrawn w d) os).alloc o) : Calls P f args (grow (redrawn w d) os) fun e w'' => e = .returned v ∧ ∃ p : Regrown, w'' = grow (redrawn w p.d) p.os :=
  h.mono fun _ _ ⟨he, hb⟩ => ⟨he, gr_of (hb ▸ (Below.refl _ _).alloc (Nat.le_refl _) _)⟩
theorem size_gr (w : World) (d : Nat) (os : Array Obj) : w.heap.size ≤ (grow (redrawn w d) os).heap.size := (below_regrown w d os).size
end Go.Proofs.YtomkhhpigpilfaaGreatDoor
