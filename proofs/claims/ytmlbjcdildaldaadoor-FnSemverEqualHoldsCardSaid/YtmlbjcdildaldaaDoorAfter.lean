/- The specification's version right after another, walked. -/
import Derived.Test.YtmlbjcdildaldaaDoorBlock
import Derived.Deep.MidRow
import Derived.Deep.DeepCutAuto
set_option linter.unusedVariables false
set_option linter.unusedSimpArgs false
namespace Go.Proofs.YtmlbjcdildaldaaDoor
open Go.RowKit

abbrev zeroP : ByteArray := ⟨#[48]⟩
abbrev dotZero : ByteArray := ⟨#[46, 48]⟩
theorem ba {w w1 w2 : World} (h : Below w.heap.size w w1) (k : Below w1.heap.size w1 w2) : Below w.heap.size w w2 := h.trans (k.mono h.size)

/-- A whole version stored into a block of its own. -/
theorem run_store_ver (w : World) (g : Nat) (a b c : Int) (p m : ByteArray) (ht : w.there g 0 5) :
    (Instr.storeAt 27 (.pointer (some ⟨g, 0, none⟩)) (.agg #[.int .u64 a, .int .u64 b, .int .u64 c, .string p, .string m])).run Tryd.prog w = .ok () (w.setCells g 0 (scells a b c p m).toList) :=
  run_storeAt_mid w g 0 27 (scells a b c p m) ht (by kernel_rfl) (by simp [Value.oneCell'])
theorem there_blk {w : World} {g : Nat} {t : TypeId} {cs : Array Value} (h : Blk w g t cs) (n : Nat) (hn : n ≤ cs.size) : w.there g 0 n := fun j hj => by
  constructor
  · rw [Nat.zero_add, h.cell j, Array.getElem?_eq_getElem (by omega)]
    rfl
  · exact h.frozen _
theorem range_blk {w : World} {g : Nat} {t : TypeId} {cs : Array Value} (h : Blk w g t cs) : w.rangeAt g 0 cs.toList := fun j v hj => by
  rw [Nat.zero_add, h.cell j]
  simpa using hj
theorem setCells_blk {w : World} {g : Nat} {t : TypeId} {cs : Array Value} (h : Blk w g t cs) (hs : cs.size = 5) (a b c : Int) (p m : ByteArray) : Blk (w.setCells g 0 (scells a b c p m).toList) g t (scells a b c p m) := by
  match cs, hs with
  | ⟨[x0, x1, x2, x3, x4]⟩, _ => exact ((((h.set 0 _).set 1 _).set 2 _).set 3 _).set 4 _
theorem Blk.other {w : World} {g h : Nat} {t : TypeId} {cs : Array Value} (hb : Blk w g t cs) (hne : g ≠ h) (i : Nat) (u : Value) : Blk (w.setCell ⟨h, i, none⟩ u) g t cs := by
  unfold Blk at hb ⊢
  simp [World.setCell, Array.getElem?_modify, hb, Ne.symm hne]
theorem setCells_other {w : World} {g h : Nat} {t : TypeId} {cs : Array Value} (hb : Blk w g t cs) (hne : g ≠ h) (a b c : Int) (p m : ByteArray) : Blk (w.setCells h 0 (scells a b c p m).toList) g t cs :=
  ((((hb.other hne 0 _).other hne 1 _).other hne 2 _).other hne 3 _).other hne 4 _
theorem setCells_below {B : Nat} {w w1 : World} (h : Below B w w1) {g : Nat} (hg : B ≤ g) (a b c : Int) (p m : ByteArray) : Below B w (w1.setCells g 0 (scells a b c p m).toList) :=
  below_set (below_set (below_set (below_set (below_set h hg 0 _) hg 1 _) hg 2 _) hg 3 _) hg 4 _

attribute [local go_sem ↓] run_store_ver
set_option maxRecDepth 100000 in
theorem first_any (a b c : Int) (p m : ByteArray) (w : World) : Calls Tryd.prog 62 #[.agg (scells a b c p m)] w fun e w' => e = .returned (.agg (scells a b c zeroP ByteArray.empty)) ∧ Below w.heap.size w w' := by
  have B0 : Blk ((w.alloc (.cells (scells a b c p m) 27)).alloc (.cells (scells 0 0 0 ByteArray.empty ByteArray.empty) 27)) w.heap.size 27 (scells a b c p m) := (Blk.new w _ _).alloc _
  have B1 : Blk ((w.alloc (.cells (scells a b c p m) 27)).alloc (.cells (scells 0 0 0 ByteArray.empty ByteArray.empty) 27)) (w.heap.size + 1) 27 (scells 0 0 0 ByteArray.empty ByteArray.empty) := by
    have := Blk.new (w.alloc (.cells (scells a b c p m) 27)) 27 (scells 0 0 0 ByteArray.empty ByteArray.empty)
    rwa [World.size_alloc] at this
  have HB0 := hid B0
  have HB1 := hid B1
  have hbw : Below w.heap.size w ((w.alloc (.cells (scells a b c p m) 27)).alloc (.cells (scells 0 0 0 ByteArray.empty ByteArray.empty) 27)) := by go_grown
  have HW := hid hbw
  clear B0 B1 hbw
  go_enter Tryd.func62, Tryd.ntmps62
  go_wp2_with fail
  go_at_call 39
  refine (bare_any a b c p m _).mono ?_
  rintro e w1 ⟨rfl, hb⟩
  have C0 := hid (HB0.out.below hb)
  have C1 := hid (HB1.out.below hb)
  have HC := hid (ba HW.out hb)
  have t0 : w1.there w.heap.size 0 5 := there_blk C0.out 5 (Nat.le_refl 5)
  have D0 := hid (setCells_blk C0.out rfl a b c ByteArray.empty ByteArray.empty)
  have D1 := hid (setCells_other C1.out (Nat.succ_ne_self w.heap.size) a b c ByteArray.empty ByteArray.empty)
  have HD := hid (setCells_below HC.out (Nat.le_refl _) a b c ByteArray.empty ByteArray.empty)
  clear hb
  simp only []
  rename_i hK
  apply hK
  refine wpList_store_mid rfl 27 (.tmp 1) (.tmp 4) rfl w.heap.size 0 (scells a b c ByteArray.empty ByteArray.empty) (by rfl) (by rfl) t0 (by kernel_rfl) (by simp [Value.oneCell']) ?_
  generalize w1.setCells w.heap.size 0 (scells a b c ByteArray.empty ByteArray.empty).toList = w2 at *
  have d3 : w2.cell? ⟨w.heap.size, 3, none⟩ = some (.string ByteArray.empty) := D0.out.cell 3
  have f3 : w2.frozen? ⟨w.heap.size, 3, none⟩ = false := D0.out.frozen 3
  have E0 := hid (D0.out.set 3 (.string zeroP))
  have E1 := hid (D1.out.other (Nat.succ_ne_self w.heap.size) 3 (.string zeroP) (h := w.heap.size))
  have HE := hid (below_set HD.out (Nat.le_refl _) 3 (.string zeroP))
  have F1 := hid (setCells_blk E1.out rfl a b c zeroP ByteArray.empty)
  have HF := hid (setCells_below HE.out (Nat.le_succ _) a b c zeroP ByteArray.empty)
  have t3 : (w2.setCell ⟨w.heap.size, 3, none⟩ (.string zeroP)).there (w.heap.size + 1) 0 5 := there_blk E1.out 5 (Nat.le_refl 5)
  have r3 : (w2.setCell ⟨w.heap.size, 3, none⟩ (.string zeroP)).rangeAt w.heap.size 0 (scells a b c zeroP ByteArray.empty).toList := range_blk E0.out
  go_upto_region 3 with fail
  refine wp_region_lit ?_
  refine wpList_load_mid rfl 27 (.tmp 1) rfl w.heap.size 0 (by rfl) (scells a b c zeroP ByteArray.empty).toList _ r3 Tryd.underlying27 (by rfl) (by kernel_rfl) ?_
  refine wpList_store_mid rfl 27 (.tmp 2) (.tmp 6) rfl (w.heap.size + 1) 0 (scells a b c zeroP ByteArray.empty) (by rfl) (by rfl) t3 (by kernel_rfl) (by simp [Value.oneCell']) ?_
  refine wpList_nil ?_
  rename_i hK2
  refine hK2 _ _ ?_
  generalize (w2.setCell ⟨w.heap.size, 3, none⟩ (.string zeroP)).setCells (w.heap.size + 1) 0 (scells a b c zeroP ByteArray.empty).toList = w4 at *
  go_wp2_with fail
  refine bodyPost_ret (results_cell_row rfl _ _ (w.heap.size + 1) 27 _ (0, 0) _ rfl F1.out Tryd.underlying27 rfl (by kernel_rfl)) rfl ⟨rfl, HF.out⟩
end Go.Proofs.YtmlbjcdildaldaaDoor
