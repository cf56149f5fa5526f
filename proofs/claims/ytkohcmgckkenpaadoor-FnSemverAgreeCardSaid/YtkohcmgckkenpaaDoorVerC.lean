/- spec.CompareNumbers, walked. -/
import Derived.Test.YtkohcmgckkenpaaDoorVerB
import Derived.Deep.QuietTactic
import Derived.BigQuiet
import Derived.IntWalk
import Derived.Deep.DeepCutAuto
set_option linter.unusedVariables false
set_option linter.unusedSimpArgs false
namespace Go.Proofs.YtkohcmgckkenpaaDoor
open Go.RowKit

/-- The first of the first n differences that is not 0. -/
def firstC (x y : Nat → Int) : Nat → Int
  | 0 => 0
  | n + 1 => if firstC x y n = 0 then segC (x n) (y n) else firstC x y n
def three (a b c : Int) (k : Nat) : Int := if k = 0 then a else if k = 1 then b else c

theorem firstC_stop (x y : Nat → Int) (k n : Nat) (h : k < n) (hz : firstC x y k = 0) (h0 : segC (x k) (y k) ≠ 0) : firstC x y n = segC (x k) (y k) := by
  induction n with
  | zero => omega
  | succ n ih =>
    by_cases hk : k < n
    · have e := ih hk
      simp only [firstC]
      rw [e, if_neg h0]
    · obtain rfl : k = n := by omega
      simp only [firstC]
      rw [hz, if_pos rfl]

theorem two_blk (W : World) (t : TypeId) (x y : Array Value) : Blk ((W.alloc (.cells x t)).alloc (.cells y t)).drew W.heap.size t x ∧ Blk ((W.alloc (.cells x t)).alloc (.cells y t)).drew (W.heap.size + 1) t y := by
  have h1 := (Blk.new W t x).alloc (.cells y t)
  have h2 := Blk.new (W.alloc (.cells x t)) t y
  rw [World.size_alloc] at h2
  exact ⟨h1, h2⟩

theorem keep6 {a b c : Int} {p m : ByteArray} {a' b' c' : Int} {p' m' : ByteArray} {w w' : World} {t u : TypeId} (hb : Below ((w.alloc (.cells (scells a b c p m) t)).alloc (.cells (scells a' b' c' p' m') u)).heap.size ((w.alloc (.cells (scells a b c p m) t)).alloc (.cells (scells a' b' c' p' m') u)) w') :
    w'.cell? ⟨w.heap.size, 0, none⟩ = some (.int .u64 a) ∧ w'.cell? ⟨w.heap.size, 1, none⟩ = some (.int .u64 b) ∧ w'.cell? ⟨w.heap.size, 2, none⟩ = some (.int .u64 c) ∧ w'.cell? ⟨w.heap.size + 1, 0, none⟩ = some (.int .u64 a') ∧ w'.cell? ⟨w.heap.size + 1, 1, none⟩ = some (.int .u64 b') ∧ w'.cell? ⟨w.heap.size + 1, 2, none⟩ = some (.int .u64 c') := by
  have h1 : Blk ((w.alloc (.cells (scells a b c p m) t)).alloc (.cells (scells a' b' c' p' m') u)) w.heap.size t (scells a b c p m) := (Blk.new w t (scells a b c p m)).alloc _
  have h2 : Blk ((w.alloc (.cells (scells a b c p m) t)).alloc (.cells (scells a' b' c' p' m') u)) (w.heap.size + 1) u (scells a' b' c' p' m') := by
    have := Blk.new (w.alloc (.cells (scells a b c p m) t)) u (scells a' b' c' p' m')
    rwa [World.size_alloc] at this
  have k1 := h1.below hb
  have k2 := h2.below hb
  exact ⟨k1.cell 0, k1.cell 1, k1.cell 2, k2.cell 0, k2.cell 1, k2.cell 2⟩

end Go.Proofs.YtkohcmgckkenpaaDoor
