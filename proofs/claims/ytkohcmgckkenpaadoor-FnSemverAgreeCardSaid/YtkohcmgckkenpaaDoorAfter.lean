/- The specification's version right after another, walked. -/
import Derived.Test.YtkohcmgckkenpaaDoorBlock
import Derived.Deep.MidRow
import Derived.Deep.DeepCutAuto
set_option linter.unusedVariables false
set_option linter.unusedSimpArgs false
namespace Go.Proofs.YtkohcmgckkenpaaDoor
open Go.RowKit

abbrev zeroP : ByteArray := ⟨#[48]⟩
abbrev dotZero : ByteArray := ⟨#[46, 48]⟩
theorem ba {w w1 w2 : World} (h : Below w.heap.size w w1) (k : Below w1.heap.size w1 w2) : Below w.heap.size w w2 := h.trans (k.mono h.size)

/-- A whole version stored into a block of its own. -/
theorem run_store_ver (w : World) (g : Nat) (a b c : Int) (p m : ByteArray) (ht : w.there g 0 5) :
    (Instr.storeAt 25 (.pointer (some ⟨g, 0, none⟩)) (.agg #[.int .u64 a, .int .u64 b, .int .u64 c, .string p, .string m])).run Tryd.prog w = .ok () (w.setCells g 0 (scells a b c p m).toList) :=
  run_storeAt_mid w g 0 25 (scells a b c p m) ht (by kernel_rfl) (by simp [Value.oneCell'])
theorem there_blk {w : World} {g : Nat} {t : TypeId} {cs : Array Value} (h : Blk w g t cs) (n : Nat) (hn : n ≤ cs.size) : w.there g 0 n := fun j hj => by
  constructor
  · rw [Nat.zero_add, h.cell j, Array.getElem?_eq_getElem (by omega)]
    rfl
  · exact h.frozen _
theorem range_blk {w : World} {g : Nat} {t : TypeId} {cs : Array Value} (h : Blk w g t cs) : w.rangeAt g 0 cs.toList := fun j v hj => by
  rw [Nat.zero_add, h.cell j]
  simpa using hj
theorem setCells_blk {w : World} {g : Nat} {t : TypeId} {cs : Array Value} (h : Blk w g t cs) (hs : cs.size = 5) (a b c : Int) (p m : ByteArray) : Blk (w.setCells g 0 (scells a b c p m).toList) g t (scells a b c p m) := by
  match cs, hs with
  | ⟨[x0, x1, x2, x3, x4]⟩, _ => exact ((((h.set 0 _).set 1 _).set 2 _).set 3 _).set 4 _
theorem Blk.other {w : World} {g h : Nat} {t : TypeId} {cs : Array Value} (hb : Blk w g t cs) (hne : g ≠ h) (i : Nat) (u : Value) : Blk (w.setCell ⟨h, i, none⟩ u) g t cs := by
  unfold Blk at hb ⊢
  simp [World.setCell, Array.getElem?_modify, hb, Ne.symm hne]
theorem setCells_other {w : World} {g h : Nat} {t : TypeId} {cs : Array Value} (hb : Blk w g t cs) (hne : g ≠ h) (a b c : Int) (p m : ByteArray) : Blk (w.setCells h 0 (scells a b c p m).toList) g t cs :=
  ((((hb.other hne 0 _).other hne 1 _).other hne 2 _).other hne 3 _).other hne 4 _
theorem setCells_below {B : Nat} {w w1 : World} (h : Below B w w1) {g : Nat} (hg : B ≤ g) (a b c : Int) (p m : ByteArray) : Below B w (w1.setCells g 0 (scells a b c p m).toList) :=
  below_set (below_set (below_set (below_set (below_set h hg 0 _) hg 1 _) hg 2 _) hg 3 _) hg 4 _

attribute [local go_sem ↓] run_store_ver
end Go.Proofs.YtkohcmgckkenpaaDoor
