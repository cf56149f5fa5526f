/- impl.CronItem, whatever the text. Walked. -/
import Derived.Test.YtomkhhpigpilfaaGreatDoorRangeN
set_option linter.unusedVariables false
set_option linter.unusedSimpArgs false
namespace Go.Proofs.YtomkhhpigpilfaaGreatDoor
open Go.RowKit

def kLo (k : Nat) : Nat := if k = 3 ∨ k = 4 then 1 else 0
def kHi (k : Nat) : Nat := if k = 2 then 23 else if k = 3 then 31 else if k = 4 then 12 else if k = 5 then 6 else 59
theorem k_bounds (k : Nat) : kLo k ≤ kHi k ∧ kHi k ≤ 62 := by
  unfold kLo kHi
  repeat' split
  all_goals omega
def BndOk (k : Nat) (w w' : World) (e : Ending) : Prop := ∃ (mv : Value) (M : World → Prop), e = .returned (.agg #[.int .u64 (kLo k : Nat), .int .u64 (kHi k : Nat), mv]) ∧ Below w.heap.size w w' ∧ M w' ∧ Kept M ∧ ValIs mv M (ival k lwL) ∧ ∀ W, M W → Vars W
theorem ival_plain {k : Nat} (h : ¬ (k = 4 ∨ k = 5)) (l : List UInt8) : ival k lwL l = inum l := by unfold ival; rw [nm_other h]; rfl
theorem is_plain {k : Nat} (h : ¬ (k = 4 ∨ k = 5)) : ValIs (.map none) Vars (ival k lwL) := fun x hx w hw => by
  rw [ival_plain h]
  exact valN_nil x hx w hw
theorem kept_and {M N : World → Prop} (h : Kept M) (k : Kept N) : Kept (fun w => M w ∧ N w) := fun w w' ⟨a, b⟩ hb => ⟨h w w' a hb, k w w' b hb⟩
theorem is_named {k : Nat} (h : k = 4 ∨ k = 5) (b : Nat) (es : Array MapEntry) (c : Nat) (ht : Tabled es (nm k)) : ValIs (.map (some b)) (fun w => MapAt b es c w ∧ Vars w) (ival k lwL) := fun x hx w ⟨hm, hv⟩ => valN_map k x hx b es c ht (nm_fun k h).1 (nm_fun k h).2 w hv hm
/-- The package's item of a field. -/
def itemK (k : Nat) (l : List UInt8) : Option Nat := itemI (kLo k) (kHi k) (ival k lwL) l
theorem rangeK (s : ByteArray) (k : Nat) (mv : Value) (M : World → Prop) (w : World) (hM : Kept M) (hw : M w) (hs : s.size ≤ 65536) (hF : ValIs mv M (ival k lwL)) (hN : ∀ x : ByteArray, x.size ≤ 65536 → ∀ w, M w → Calls Tryz.prog 90 #[.string x] w fun e w' => RetN e (inum x.toList) ∧ Below w.heap.size w w') :
    Calls Tryz.prog 77 #[.string s, .agg #[.int .u64 (kLo k : Nat), .int .u64 (kHi k : Nat), mv]] w fun e w' => RetN e (itemK k s.toList) ∧ Below w.heap.size w w' :=
  rangeN_any s (kLo k) (kHi k) mv M (ival k lwL) w hM hw hs (k_bounds k).1 (k_bounds k).2 hF hN
end Go.Proofs.YtomkhhpigpilfaaGreatDoor
