/- The law FnRefRank's other calls: its size test, its length test, what a reference tells, and its documented place. Walked. -/
import Derived.Test.YtknjengnipidoaaKit
import Derived.Test.YtknjengnipidoaaStrP
import Derived.IntWalk
set_option linter.unusedVariables false
set_option linter.unusedSimpArgs false
namespace Go.Proofs.Ytknjengnipidoaa
open Go.RowKit

abbrev refV (d p t g : ByteArray) : Value := .agg #[.string d, .string p, .string t, .string g]

def big1 (s : ByteArray) : Bool := decide (s.size ≤ 2147483647)
def fit7 (d p t g : ByteArray) : Bool := big1 d && big1 p && big1 t && big1 g
def short7 (d p t g : ByteArray) : Bool := decide (d.size + p.size + t.size + g.size ≤ 65536) && (!p.toList.isEmpty || d.toList.isEmpty)

theorem fits7_any (d p t g : ByteArray) (w : World) : Calls Try.prog 14 #[.agg #[.string d, .string p, .string t, .string g]] w fun e w' => e = .returned (.bool (fit7 d p t g)) ∧ Below w.heap.size w w' := by
  by_cases h1 : (2147483647 : Int) < (d.size : Int)
  · have e : fit7 d p t g = false := by simp [fit7, big1]; omega
    rw [e]; clear e
    go_enter Try.func14, Try.ntmps14
    go_wp2; go_ret; exact ⟨rfl, by go_grown⟩
  by_cases h2 : (2147483647 : Int) < (p.size : Int)
  · have e : fit7 d p t g = false := by simp [fit7, big1]; omega
    rw [e]; clear e
    go_enter Try.func14, Try.ntmps14
    go_wp2; go_ret; exact ⟨rfl, by go_grown⟩
  by_cases h3 : (2147483647 : Int) < (t.size : Int)
  · have e : fit7 d p t g = false := by simp [fit7, big1]; omega
    rw [e]; clear e
    go_enter Try.func14, Try.ntmps14
    go_wp2; go_ret; exact ⟨rfl, by go_grown⟩
  by_cases h4 : (2147483647 : Int) < (g.size : Int)
  · have e : fit7 d p t g = false := by simp [fit7, big1]; omega
    rw [e]; clear e
    go_enter Try.func14, Try.ntmps14
    go_wp2; go_ret; exact ⟨rfl, by go_grown⟩
  have e : fit7 d p t g = true := by simp [fit7, big1]; omega
  rw [e]; clear e
  go_enter Try.func14, Try.ntmps14
  go_wp2; go_ret; exact ⟨rfl, by go_grown⟩

theorem short7_any (d p t g : ByteArray) (w : World) (hf : fit7 d p t g = true) : Calls Try.prog 15 #[.agg #[.string d, .string p, .string t, .string g]] w fun e w' => e = .returned (.bool (short7 d p t g)) ∧ Below w.heap.size w w' := by
  have hz : d.size ≤ 2147483647 ∧ p.size ≤ 2147483647 ∧ t.size ≤ 2147483647 ∧ g.size ≤ 2147483647 := by simpa [fit7, big1, and_assoc] using hf
  have w1 : IntKind.i64.wrap ((d.size : Int) + p.size) = (d.size : Int) + p.size := IntWalk.i64_in _ (by omega)
  have w2 : IntKind.i64.wrap ((d.size : Int) + p.size + t.size) = (d.size : Int) + p.size + t.size := IntWalk.i64_in _ (by omega)
  have w3 : IntKind.i64.wrap ((d.size : Int) + p.size + t.size + g.size) = (d.size : Int) + p.size + t.size + g.size := IntWalk.i64_in _ (by omega)
  clear hf hz
  by_cases h1 : (d.size : Int) + p.size + t.size + g.size ≤ 65536
  · cases h2 : p.toList.isEmpty
    · have e : short7 d p t g = true := by simp [short7, h2]; omega
      rw [e]; clear e
      go_enter Try.func15, Try.ntmps15
      go_wp2; go_ret; exact ⟨rfl, by go_grown⟩
    · cases h3 : d.toList.isEmpty
      · have e : short7 d p t g = false := by simp [short7, h2, h3]
        rw [e]; clear e
        go_enter Try.func15, Try.ntmps15
        go_wp2; go_ret; exact ⟨rfl, by go_grown⟩
      · have e : short7 d p t g = true := by simp [short7, h2, h3]; omega
        rw [e]; clear e
        go_enter Try.func15, Try.ntmps15
        go_wp2; go_ret; exact ⟨rfl, by go_grown⟩
  · have e : short7 d p t g = false := by simp [short7]; omega
    rw [e]; clear e
    go_enter Try.func15, Try.ntmps15
    go_wp2; go_ret; exact ⟨rfl, by go_grown⟩

/-- What a reference tells, by which of its parts are empty. -/
def tells (p t g : Bool) : Int := if p then (if g then 0 else 4) else (if g then 0 else 4) + (if t then 0 else 2) + 1

theorem tells_any (d p t g : ByteArray) (w : World) (bp bt bg : Bool) (hp : p.toList.isEmpty = bp) (ht : t.toList.isEmpty = bt) (hg : g.toList.isEmpty = bg) :
    Calls Try.prog 16 #[.agg #[.string d, .string p, .string t, .string g]] w fun e w' => e = .returned (.int .i64 (tells bp bt bg)) ∧ Below w.heap.size w w' := by
  cases bp <;> cases bt <;> cases bg <;> (go_enter Try.func16, Try.ntmps16; go_wp2; go_ret; exact ⟨ret_i (by decide), by go_grown⟩)

def place (p t g : Bool) : Int := match tells p t g with | 7 => 1 | 3 => 2 | 5 => 3 | 1 => 4 | _ => 5

theorem place_any (d p t g : ByteArray) (w : World) (bp bt bg : Bool) (hp : p.toList.isEmpty = bp) (ht : t.toList.isEmpty = bt) (hg : g.toList.isEmpty = bg) :
    Calls Try.prog 18 #[.agg #[.string d, .string p, .string t, .string g]] w fun e w' => e = .returned (.int .i64 (place bp bt bg)) ∧ Below w.heap.size w w' := by
  cases bp <;> cases bt <;> cases bg <;> (go_enter Try.func18, Try.ntmps18; go_wp2; go_ret; exact ⟨ret_i (by decide), by go_grown⟩)
end Go.Proofs.Ytknjengnipidoaa
