/- CronBefore; two blocks kept. -/
import Derived.Test.YtfmagbkcfeckhaaLawN
set_option linter.unusedVariables false
set_option linter.unusedSimpArgs false
namespace Go.Proofs.Ytfmagbkcfeckhaa
open Go.RowKit

def befB (a an b bn : Int) : Bool := decide (a < b) || (decide (a = b) && decide (an < bn))
theorem before_any (a an b bn : Int) (w : World) : Calls Try.prog 13 #[.agg (icells a an), .agg (icells b bn)] w fun e w' => e = .returned (.bool (befB a an b bn)) ∧ Below w.heap.size w w' := by
  have B := hid (show Below w.heap.size w ((w.alloc (.cells (icells a an) 26)).alloc (.cells (icells b bn) 26)) by go_grown)
  unfold befB
  rcases Int.lt_trichotomy a b with h | h | h
  · rw [decide_eq_true h, Bool.true_or]
    go_enter Try.func13, Try.ntmps13
    go_wp2_with fail
    go_ret
    exact ⟨rfl, B.out⟩
  · subst h
    rw [decide_eq_false (Int.lt_irrefl a), decide_eq_true rfl, Bool.false_or, Bool.true_and]
    have h1 : ¬ a < a := Int.lt_irrefl a
    go_enter Try.func13, Try.ntmps13
    go_wp2_with fail
    go_ret
    exact ⟨rfl, B.out⟩
  · have h1 : ¬ a < b := by omega
    have h2 : ¬ a = b := by omega
    have h3 : (a == b) = false := beq_eq_false_iff_ne.2 h2
    rw [decide_eq_false h1, decide_eq_false h2, Bool.false_or, Bool.false_and]
    go_enter Try.func13, Try.ntmps13
    go_wp2_with fail
    go_ret
    exact ⟨rfl, B.out⟩
theorem keepM {dl s n : Int} {S : Sets} {b0 b1 : Nat} {t0 t1 : TypeId} {w w' : World} (h0 : Blk w b0 t0 (schCells dl S)) (h1 : Blk w b1 t1 (icells s n)) (hb : Below w.heap.size w w') :
    w'.cell? ⟨b0, 0, none⟩ = some (.bool false) ∧ w'.cell? ⟨b0, 1, none⟩ = some (.int .i64 dl) ∧ w'.cell? ⟨b0, 2, none⟩ = some (.int .u64 S.sec) ∧ w'.cell? ⟨b0, 3, none⟩ = some (.int .u64 S.min) ∧ w'.cell? ⟨b0, 4, none⟩ = some (.int .u64 S.hour) ∧ w'.cell? ⟨b0, 5, none⟩ = some (.int .u64 S.dom) ∧ w'.cell? ⟨b0, 6, none⟩ = some (.int .u64 S.month) ∧ w'.cell? ⟨b0, 7, none⟩ = some (.int .u64 S.dow) ∧
    w'.cell? ⟨b1, 0, none⟩ = some (.int .i64 s) ∧ w'.cell? ⟨b1, 1, none⟩ = some (.int .i64 n) := by
  have k0 := h0.below hb
  have k1 := h1.below hb
  exact ⟨k0.cell 0, k0.cell 1, k0.cell 2, k0.cell 3, k0.cell 4, k0.cell 5, k0.cell 6, k0.cell 7, k1.cell 0, k1.cell 1⟩
theorem ans_le {S : Sets} {s s' x x' : Int} (h : IsAns S s 0 x true) (h' : IsAns S s' 0 x' true) (hs : s ≤ s') : x ≤ x' := by
  rcases h with ⟨_, l, rfl, hf⟩ | ⟨h, _⟩
  · rcases h' with ⟨_, l', rfl, hf'⟩ | ⟨h, _⟩
    · rcases Int.lt_or_le l' l with g | g
      · exact absurd hf'.2.2.2.1 (hf.2.2.2.2 l' (by have := hf'.1; omega) g)
      · omega
    · cases h
  · cases h
theorem ans_gt {S : Sets} {s x : Int} (h : IsAns S s 0 x true) : s < x := by
  rcases h with ⟨_, l, rfl, hf⟩ | ⟨h, _⟩
  · have := hf.1
    omega
  · cases h
end Go.Proofs.Ytfmagbkcfeckhaa
