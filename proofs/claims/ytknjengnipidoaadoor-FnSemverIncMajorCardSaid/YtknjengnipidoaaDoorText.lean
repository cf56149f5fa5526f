/- How a version prints: the package's String and the reference's VersionText, walked. -/
import Derived.Test.YtknjengnipidoaaDoorDec
import Derived.Test.YtknjengnipidoaaDoorSvGoodR
import Derived.Test.YtknjengnipidoaaDoorGrow
set_option linter.unusedVariables false
set_option linter.unusedSimpArgs false
namespace Go.Proofs.YtknjengnipidoaaDoor
open Go.RowKit

theorem btx {w w1 w2 : World} (h : Below w.heap.size w w1) (k : Below w1.heap.size w1 w2) : Below w.heap.size w w2 := h.trans (k.mono h.size)
theorem blk_gr {w : World} {g : Nat} {t : TypeId} {cs : Array Value} (h : Blk w g t cs) (d : Nat) (os : Array Obj) : Blk (Go.Sort.grow (redrawn w d) os) g t cs := h.below (below_regrown w d os)

/-- The text of a version: numbers in words, prerelease, metadata. -/
def txt (X Y Z p m : ByteArray) : ByteArray :=
  let t := X ++ ⟨#[46]⟩ ++ Y ++ ⟨#[46]⟩ ++ Z
  let t := if p.toList.isEmpty then t else t ++ (⟨#[45]⟩ ++ p)
  if m.toList.isEmpty then t else t ++ (⟨#[43]⟩ ++ m)

set_option maxHeartbeats 1600000 in
set_option maxRecDepth 100000 in
theorem str_ee (a b c : Int) (X Y Z p m : ByteArray) (w : World) (hX : Hid (∀ w, Tab w → Calls Tryd.prog 33 #[.int .u64 a, .int .i64 10] w fun e w' => e = .returned (.string X) ∧ Below w.heap.size w w')) (hY : Hid (∀ w, Tab w → Calls Tryd.prog 33 #[.int .u64 b, .int .i64 10] w fun e w' => e = .returned (.string Y) ∧ Below w.heap.size w w')) (hZ : Hid (∀ w, Tab w → Calls Tryd.prog 33 #[.int .u64 c, .int .i64 10] w fun e w' => e = .returned (.string Z) ∧ Below w.heap.size w w')) (zX : X.size ≤ 20) (zY : Y.size ≤ 20) (zZ : Z.size ≤ 20) (zp : p.size ≤ 2147483647) (zm : m.size ≤ 2147483647) (hp : p.toList.isEmpty = true) (hm : m.toList.isEmpty = true) (ht : Tab w) :
    Calls Tryd.prog 23 #[.agg (vcells a b c p m)] w fun e w' => e = .returned (.string (X ++ ⟨#[46]⟩ ++ Y ++ ⟨#[46]⟩ ++ Z)) ∧ Below w.heap.size w w' := by
  have f0 : ¬ 9223372036854775807 < X.size + 1 := by omega
  have f1 : ¬ 9223372036854775807 < X.size + 1 + Y.size := by omega
  have f2 : ¬ 9223372036854775807 < X.size + 1 + Y.size + 1 := by omega
  have f3 : ¬ 9223372036854775807 < X.size + 1 + Y.size + 1 + Z.size := by omega

  clear zX zY zZ zp zm
  go_enter Tryd.func23, Tryd.ntmps23
  go_wp2_with fail
  have Q := hid (Blk.new w 43 (vcells a b c p m))
  have B := hid (show Below w.heap.size w (w.alloc (.cells (vcells a b c p m) 43)) from (Below.refl _ _).alloc (Nat.le_refl _) _)
  generalize (w.alloc (.cells (vcells a b c p m) 43)) = w1 at Q B ⊢
  have HT := hid (tab_below ht B.out)
  clear ht
  have k0 : ∀ d os, (Go.Sort.grow (redrawn w1 d) os).cell? ⟨w.heap.size, 0, none⟩ = some (.int .u64 a) := fun d os => (blk_gr Q.out d os).cell 0
  have k1 : ∀ d os, (Go.Sort.grow (redrawn w1 d) os).cell? ⟨w.heap.size, 1, none⟩ = some (.int .u64 b) := fun d os => (blk_gr Q.out d os).cell 1
  have k2 : ∀ d os, (Go.Sort.grow (redrawn w1 d) os).cell? ⟨w.heap.size, 2, none⟩ = some (.int .u64 c) := fun d os => (blk_gr Q.out d os).cell 2
  have k3 : ∀ d os, (Go.Sort.grow (redrawn w1 d) os).cell? ⟨w.heap.size, 3, none⟩ = some (.string p) := fun d os => (blk_gr Q.out d os).cell 3
  have k4 : ∀ d os, (Go.Sort.grow (redrawn w1 d) os).cell? ⟨w.heap.size, 4, none⟩ = some (.string m) := fun d os => (blk_gr Q.out d os).cell 4
  have CX := hid (fun d os => Calls.regrown_of (hX.out (Go.Sort.grow (redrawn w1 d) os) (tab_below HT.out (below_regrown w1 d os))))
  have CY := hid (fun d os => Calls.regrown_of (hY.out (Go.Sort.grow (redrawn w1 d) os) (tab_below HT.out (below_regrown w1 d os))))
  have CZ := hid (fun d os => Calls.regrown_of (hZ.out (Go.Sort.grow (redrawn w1 d) os) (tab_below HT.out (below_regrown w1 d os))))
  refine wp_region_quiet_below (by kernel_rfl) (by kernel_rfl) ?_
  repeat (go_big_quiet_step ((first | (go_at_call_of 33 (Value.int IntKind.u64 a); exact CX.out _ _) | (go_at_call_of 33 (Value.int IntKind.u64 b); exact CY.out _ _) | (go_at_call_of 33 (Value.int IntKind.u64 c); exact CZ.out _ _) | fail)))
  refine wpQuiet_nil ?_
  intro _ hw'
  obtain ⟨⟨dq, osq⟩, hw''⟩ := hw'
  subst hw''
  go_wp2_with fail
  go_ret
  exact ⟨rfl, btx B.out (below_regrown _ _ _)⟩

set_option maxHeartbeats 1600000 in
set_option maxRecDepth 100000 in
theorem svt_ee (a b c : Int) (X Y Z p m : ByteArray) (w : World) (hX : Hid (∀ w, Calls Tryd.prog 24 #[.int .u64 a] w fun e w' => e = .returned (.string X) ∧ Below w.heap.size w w')) (hY : Hid (∀ w, Calls Tryd.prog 24 #[.int .u64 b] w fun e w' => e = .returned (.string Y) ∧ Below w.heap.size w w')) (hZ : Hid (∀ w, Calls Tryd.prog 24 #[.int .u64 c] w fun e w' => e = .returned (.string Z) ∧ Below w.heap.size w w')) (zX : X.size ≤ 20) (zY : Y.size ≤ 20) (zZ : Z.size ≤ 20) (zp : p.size ≤ 2147483647) (zm : m.size ≤ 2147483647) (hp : p.toList.isEmpty = true) (hm : m.toList.isEmpty = true) :
    Calls Tryd.prog 13 #[.agg (scells a b c p m)] w fun e w' => e = .returned (.string (X ++ ⟨#[46]⟩ ++ Y ++ ⟨#[46]⟩ ++ Z)) ∧ Below w.heap.size w w' := by
  have f0 : ¬ 9223372036854775807 < X.size + 1 := by omega
  have f1 : ¬ 9223372036854775807 < X.size + 1 + Y.size := by omega
  have f2 : ¬ 9223372036854775807 < X.size + 1 + Y.size + 1 := by omega
  have f3 : ¬ 9223372036854775807 < X.size + 1 + Y.size + 1 + Z.size := by omega

  clear zX zY zZ zp zm
  go_enter Tryd.func13, Tryd.ntmps13
  go_wp2_with fail
  have Q := hid (Blk.new w 27 (scells a b c p m))
  have B := hid (show Below w.heap.size w (w.alloc (.cells (scells a b c p m) 27)) from (Below.refl _ _).alloc (Nat.le_refl _) _)
  generalize (w.alloc (.cells (scells a b c p m) 27)) = w1 at Q B ⊢
  have k0 : ∀ d os, (Go.Sort.grow (redrawn w1 d) os).cell? ⟨w.heap.size, 0, none⟩ = some (.int .u64 a) := fun d os => (blk_gr Q.out d os).cell 0
  have k1 : ∀ d os, (Go.Sort.grow (redrawn w1 d) os).cell? ⟨w.heap.size, 1, none⟩ = some (.int .u64 b) := fun d os => (blk_gr Q.out d os).cell 1
  have k2 : ∀ d os, (Go.Sort.grow (redrawn w1 d) os).cell? ⟨w.heap.size, 2, none⟩ = some (.int .u64 c) := fun d os => (blk_gr Q.out d os).cell 2
  have k3 : ∀ d os, (Go.Sort.grow (redrawn w1 d) os).cell? ⟨w.heap.size, 3, none⟩ = some (.string p) := fun d os => (blk_gr Q.out d os).cell 3
  have k4 : ∀ d os, (Go.Sort.grow (redrawn w1 d) os).cell? ⟨w.heap.size, 4, none⟩ = some (.string m) := fun d os => (blk_gr Q.out d os).cell 4
  have CX := hid (fun d os => Calls.regrown_of (hX.out (Go.Sort.grow (redrawn w1 d) os)))
  have CY := hid (fun d os => Calls.regrown_of (hY.out (Go.Sort.grow (redrawn w1 d) os)))
  have CZ := hid (fun d os => Calls.regrown_of (hZ.out (Go.Sort.grow (redrawn w1 d) os)))
  refine wp_region_quiet_below (by kernel_rfl) (by kernel_rfl) ?_
  repeat (go_big_quiet_step ((first | (go_at_call_of 24 (Value.int IntKind.u64 a); exact CX.out _ _) | (go_at_call_of 24 (Value.int IntKind.u64 b); exact CY.out _ _) | (go_at_call_of 24 (Value.int IntKind.u64 c); exact CZ.out _ _) | fail)))
  refine wpQuiet_nil ?_
  intro _ hw'
  obtain ⟨⟨dq, osq⟩, hw''⟩ := hw'
  subst hw''
  go_wp2_with fail
  go_ret
  exact ⟨rfl, btx B.out (below_regrown _ _ _)⟩

set_option maxHeartbeats 1600000 in
set_option maxRecDepth 100000 in
theorem str_em (a b c : Int) (X Y Z p m : ByteArray) (w : World) (hX : Hid (∀ w, Tab w → Calls Tryd.prog 33 #[.int .u64 a, .int .i64 10] w fun e w' => e = .returned (.string X) ∧ Below w.heap.size w w')) (hY : Hid (∀ w, Tab w → Calls Tryd.prog 33 #[.int .u64 b, .int .i64 10] w fun e w' => e = .returned (.string Y) ∧ Below w.heap.size w w')) (hZ : Hid (∀ w, Tab w → Calls Tryd.prog 33 #[.int .u64 c, .int .i64 10] w fun e w' => e = .returned (.string Z) ∧ Below w.heap.size w w')) (zX : X.size ≤ 20) (zY : Y.size ≤ 20) (zZ : Z.size ≤ 20) (zp : p.size ≤ 2147483647) (zm : m.size ≤ 2147483647) (hp : p.toList.isEmpty = true) (hm : m.toList.isEmpty = false) (ht : Tab w) :
    Calls Tryd.prog 23 #[.agg (vcells a b c p m)] w fun e w' => e = .returned (.string (X ++ ⟨#[46]⟩ ++ Y ++ ⟨#[46]⟩ ++ Z ++ (⟨#[43]⟩ ++ m))) ∧ Below w.heap.size w w' := by
  have f0 : ¬ 9223372036854775807 < X.size + 1 := by omega
  have f1 : ¬ 9223372036854775807 < X.size + 1 + Y.size := by omega
  have f2 : ¬ 9223372036854775807 < X.size + 1 + Y.size + 1 := by omega
  have f3 : ¬ 9223372036854775807 < X.size + 1 + Y.size + 1 + Z.size := by omega
  have f4 : ¬ 9223372036854775807 < 1 + m.size := by omega
  have f5 : ¬ 9223372036854775807 < X.size + 1 + Y.size + 1 + Z.size + (1 + m.size) := by omega

  clear zX zY zZ zp zm
  go_enter Tryd.func23, Tryd.ntmps23
  go_wp2_with fail
  have Q := hid (Blk.new w 43 (vcells a b c p m))
  have B := hid (show Below w.heap.size w (w.alloc (.cells (vcells a b c p m) 43)) from (Below.refl _ _).alloc (Nat.le_refl _) _)
  generalize (w.alloc (.cells (vcells a b c p m) 43)) = w1 at Q B ⊢
  have HT := hid (tab_below ht B.out)
  clear ht
  have k0 : ∀ d os, (Go.Sort.grow (redrawn w1 d) os).cell? ⟨w.heap.size, 0, none⟩ = some (.int .u64 a) := fun d os => (blk_gr Q.out d os).cell 0
  have k1 : ∀ d os, (Go.Sort.grow (redrawn w1 d) os).cell? ⟨w.heap.size, 1, none⟩ = some (.int .u64 b) := fun d os => (blk_gr Q.out d os).cell 1
  have k2 : ∀ d os, (Go.Sort.grow (redrawn w1 d) os).cell? ⟨w.heap.size, 2, none⟩ = some (.int .u64 c) := fun d os => (blk_gr Q.out d os).cell 2
  have k3 : ∀ d os, (Go.Sort.grow (redrawn w1 d) os).cell? ⟨w.heap.size, 3, none⟩ = some (.string p) := fun d os => (blk_gr Q.out d os).cell 3
  have k4 : ∀ d os, (Go.Sort.grow (redrawn w1 d) os).cell? ⟨w.heap.size, 4, none⟩ = some (.string m) := fun d os => (blk_gr Q.out d os).cell 4
  have CX := hid (fun d os => Calls.regrown_of (hX.out (Go.Sort.grow (redrawn w1 d) os) (tab_below HT.out (below_regrown w1 d os))))
  have CY := hid (fun d os => Calls.regrown_of (hY.out (Go.Sort.grow (redrawn w1 d) os) (tab_below HT.out (below_regrown w1 d os))))
  have CZ := hid (fun d os => Calls.regrown_of (hZ.out (Go.Sort.grow (redrawn w1 d) os) (tab_below HT.out (below_regrown w1 d os))))
  refine wp_region_quiet_below (by kernel_rfl) (by kernel_rfl) ?_
  repeat (go_big_quiet_step ((first | (go_at_call_of 33 (Value.int IntKind.u64 a); exact CX.out _ _) | (go_at_call_of 33 (Value.int IntKind.u64 b); exact CY.out _ _) | (go_at_call_of 33 (Value.int IntKind.u64 c); exact CZ.out _ _) | fail)))
  refine wpQuiet_nil ?_
  intro _ hw'
  obtain ⟨⟨dq, osq⟩, hw''⟩ := hw'
  subst hw''
  go_wp2_with fail
  go_ret
  exact ⟨rfl, btx B.out (below_regrown _ _ _)⟩

set_option maxHeartbeats 1600000 in
set_option maxRecDepth 100000 in
theorem svt_em (a b c : Int) (X Y Z p m : ByteArray) (w : World) (hX : Hid (∀ w, Calls Tryd.prog 24 #[.int .u64 a] w fun e w' => e = .returned (.string X) ∧ Below w.heap.size w w')) (hY : Hid (∀ w, Calls Tryd.prog 24 #[.int .u64 b] w fun e w' => e = .returned (.string Y) ∧ Below w.heap.size w w')) (hZ : Hid (∀ w, Calls Tryd.prog 24 #[.int .u64 c] w fun e w' => e = .returned (.string Z) ∧ Below w.heap.size w w')) (zX : X.size ≤ 20) (zY : Y.size ≤ 20) (zZ : Z.size ≤ 20) (zp : p.size ≤ 2147483647) (zm : m.size ≤ 2147483647) (hp : p.toList.isEmpty = true) (hm : m.toList.isEmpty = false) :
    Calls Tryd.prog 13 #[.agg (scells a b c p m)] w fun e w' => e = .returned (.string (X ++ ⟨#[46]⟩ ++ Y ++ ⟨#[46]⟩ ++ Z ++ (⟨#[43]⟩ ++ m))) ∧ Below w.heap.size w w' := by
  have f0 : ¬ 9223372036854775807 < X.size + 1 := by omega
  have f1 : ¬ 9223372036854775807 < X.size + 1 + Y.size := by omega
  have f2 : ¬ 9223372036854775807 < X.size + 1 + Y.size + 1 := by omega
  have f3 : ¬ 9223372036854775807 < X.size + 1 + Y.size + 1 + Z.size := by omega
  have f4 : ¬ 9223372036854775807 < 1 + m.size := by omega
  have f5 : ¬ 9223372036854775807 < X.size + 1 + Y.size + 1 + Z.size + (1 + m.size) := by omega

  clear zX zY zZ zp zm
  go_enter Tryd.func13, Tryd.ntmps13
  go_wp2_with fail
  have Q := hid (Blk.new w 27 (scells a b c p m))
  have B := hid (show Below w.heap.size w (w.alloc (.cells (scells a b c p m) 27)) from (Below.refl _ _).alloc (Nat.le_refl _) _)
  generalize (w.alloc (.cells (scells a b c p m) 27)) = w1 at Q B ⊢
  have k0 : ∀ d os, (Go.Sort.grow (redrawn w1 d) os).cell? ⟨w.heap.size, 0, none⟩ = some (.int .u64 a) := fun d os => (blk_gr Q.out d os).cell 0
  have k1 : ∀ d os, (Go.Sort.grow (redrawn w1 d) os).cell? ⟨w.heap.size, 1, none⟩ = some (.int .u64 b) := fun d os => (blk_gr Q.out d os).cell 1
  have k2 : ∀ d os, (Go.Sort.grow (redrawn w1 d) os).cell? ⟨w.heap.size, 2, none⟩ = some (.int .u64 c) := fun d os => (blk_gr Q.out d os).cell 2
  have k3 : ∀ d os, (Go.Sort.grow (redrawn w1 d) os).cell? ⟨w.heap.size, 3, none⟩ = some (.string p) := fun d os => (blk_gr Q.out d os).cell 3
  have k4 : ∀ d os, (Go.Sort.grow (redrawn w1 d) os).cell? ⟨w.heap.size, 4, none⟩ = some (.string m) := fun d os => (blk_gr Q.out d os).cell 4
  have CX := hid (fun d os => Calls.regrown_of (hX.out (Go.Sort.grow (redrawn w1 d) os)))
  have CY := hid (fun d os => Calls.regrown_of (hY.out (Go.Sort.grow (redrawn w1 d) os)))
  have CZ := hid (fun d os => Calls.regrown_of (hZ.out (Go.Sort.grow (redrawn w1 d) os)))
  refine wp_region_quiet_below (by kernel_rfl) (by kernel_rfl) ?_
  repeat (go_big_quiet_step ((first | (go_at_call_of 24 (Value.int IntKind.u64 a); exact CX.out _ _) | (go_at_call_of 24 (Value.int IntKind.u64 b); exact CY.out _ _) | (go_at_call_of 24 (Value.int IntKind.u64 c); exact CZ.out _ _) | fail)))
  refine wpQuiet_nil ?_
  intro _ hw'
  obtain ⟨⟨dq, osq⟩, hw''⟩ := hw'
  subst hw''
  go_wp2_with fail
  go_ret
  exact ⟨rfl, btx B.out (below_regrown _ _ _)⟩

set_option maxHeartbeats 1600000 in
set_option maxRecDepth 100000 in
theorem str_pe (a b c : Int) (X Y Z p m : ByteArray) (w : World) (hX : Hid (∀ w, Tab w → Calls Tryd.prog 33 #[.int .u64 a, .int .i64 10] w fun e w' => e = .returned (.string X) ∧ Below w.heap.size w w')) (hY : Hid (∀ w, Tab w → Calls Tryd.prog 33 #[.int .u64 b, .int .i64 10] w fun e w' => e = .returned (.string Y) ∧ Below w.heap.size w w')) (hZ : Hid (∀ w, Tab w → Calls Tryd.prog 33 #[.int .u64 c, .int .i64 10] w fun e w' => e = .returned (.string Z) ∧ Below w.heap.size w w')) (zX : X.size ≤ 20) (zY : Y.size ≤ 20) (zZ : Z.size ≤ 20) (zp : p.size ≤ 2147483647) (zm : m.size ≤ 2147483647) (hp : p.toList.isEmpty = false) (hm : m.toList.isEmpty = true) (ht : Tab w) :
    Calls Tryd.prog 23 #[.agg (vcells a b c p m)] w fun e w' => e = .returned (.string (X ++ ⟨#[46]⟩ ++ Y ++ ⟨#[46]⟩ ++ Z ++ (⟨#[45]⟩ ++ p))) ∧ Below w.heap.size w w' := by
  have f0 : ¬ 9223372036854775807 < X.size + 1 := by omega
  have f1 : ¬ 9223372036854775807 < X.size + 1 + Y.size := by omega
  have f2 : ¬ 9223372036854775807 < X.size + 1 + Y.size + 1 := by omega
  have f3 : ¬ 9223372036854775807 < X.size + 1 + Y.size + 1 + Z.size := by omega
  have f4 : ¬ 9223372036854775807 < 1 + p.size := by omega
  have f5 : ¬ 9223372036854775807 < X.size + 1 + Y.size + 1 + Z.size + (1 + p.size) := by omega

  clear zX zY zZ zp zm
  go_enter Tryd.func23, Tryd.ntmps23
  go_wp2_with fail
  have Q := hid (Blk.new w 43 (vcells a b c p m))
  have B := hid (show Below w.heap.size w (w.alloc (.cells (vcells a b c p m) 43)) from (Below.refl _ _).alloc (Nat.le_refl _) _)
  generalize (w.alloc (.cells (vcells a b c p m) 43)) = w1 at Q B ⊢
  have HT := hid (tab_below ht B.out)
  clear ht
  have k0 : ∀ d os, (Go.Sort.grow (redrawn w1 d) os).cell? ⟨w.heap.size, 0, none⟩ = some (.int .u64 a) := fun d os => (blk_gr Q.out d os).cell 0
  have k1 : ∀ d os, (Go.Sort.grow (redrawn w1 d) os).cell? ⟨w.heap.size, 1, none⟩ = some (.int .u64 b) := fun d os => (blk_gr Q.out d os).cell 1
  have k2 : ∀ d os, (Go.Sort.grow (redrawn w1 d) os).cell? ⟨w.heap.size, 2, none⟩ = some (.int .u64 c) := fun d os => (blk_gr Q.out d os).cell 2
  have k3 : ∀ d os, (Go.Sort.grow (redrawn w1 d) os).cell? ⟨w.heap.size, 3, none⟩ = some (.string p) := fun d os => (blk_gr Q.out d os).cell 3
  have k4 : ∀ d os, (Go.Sort.grow (redrawn w1 d) os).cell? ⟨w.heap.size, 4, none⟩ = some (.string m) := fun d os => (blk_gr Q.out d os).cell 4
  have CX := hid (fun d os => Calls.regrown_of (hX.out (Go.Sort.grow (redrawn w1 d) os) (tab_below HT.out (below_regrown w1 d os))))
  have CY := hid (fun d os => Calls.regrown_of (hY.out (Go.Sort.grow (redrawn w1 d) os) (tab_below HT.out (below_regrown w1 d os))))
  have CZ := hid (fun d os => Calls.regrown_of (hZ.out (Go.Sort.grow (redrawn w1 d) os) (tab_below HT.out (below_regrown w1 d os))))
  refine wp_region_quiet_below (by kernel_rfl) (by kernel_rfl) ?_
  repeat (go_big_quiet_step ((first | (go_at_call_of 33 (Value.int IntKind.u64 a); exact CX.out _ _) | (go_at_call_of 33 (Value.int IntKind.u64 b); exact CY.out _ _) | (go_at_call_of 33 (Value.int IntKind.u64 c); exact CZ.out _ _) | fail)))
  refine wpQuiet_nil ?_
  intro _ hw'
  obtain ⟨⟨dq, osq⟩, hw''⟩ := hw'
  subst hw''
  go_wp2_with fail
  go_ret
  exact ⟨rfl, btx B.out (below_regrown _ _ _)⟩

set_option maxHeartbeats 1600000 in
set_option maxRecDepth 100000 in
theorem svt_pe (a b c : Int) (X Y Z p m : ByteArray) (w : World) (hX : Hid (∀ w, Calls Tryd.prog 24 #[.int .u64 a] w fun e w' => e = .returned (.string X) ∧ Below w.heap.size w w')) (hY : Hid (∀ w, Calls Tryd.prog 24 #[.int .u64 b] w fun e w' => e = .returned (.string Y) ∧ Below w.heap.size w w')) (hZ : Hid (∀ w, Calls Tryd.prog 24 #[.int .u64 c] w fun e w' => e = .returned (.string Z) ∧ Below w.heap.size w w')) (zX : X.size ≤ 20) (zY : Y.size ≤ 20) (zZ : Z.size ≤ 20) (zp : p.size ≤ 2147483647) (zm : m.size ≤ 2147483647) (hp : p.toList.isEmpty = false) (hm : m.toList.isEmpty = true) :
    Calls Tryd.prog 13 #[.agg (scells a b c p m)] w fun e w' => e = .returned (.string (X ++ ⟨#[46]⟩ ++ Y ++ ⟨#[46]⟩ ++ Z ++ (⟨#[45]⟩ ++ p))) ∧ Below w.heap.size w w' := by
  have f0 : ¬ 9223372036854775807 < X.size + 1 := by omega
  have f1 : ¬ 9223372036854775807 < X.size + 1 + Y.size := by omega
  have f2 : ¬ 9223372036854775807 < X.size + 1 + Y.size + 1 := by omega
  have f3 : ¬ 9223372036854775807 < X.size + 1 + Y.size + 1 + Z.size := by omega
  have f4 : ¬ 9223372036854775807 < 1 + p.size := by omega
  have f5 : ¬ 9223372036854775807 < X.size + 1 + Y.size + 1 + Z.size + (1 + p.size) := by omega

  clear zX zY zZ zp zm
  go_enter Tryd.func13, Tryd.ntmps13
  go_wp2_with fail
  have Q := hid (Blk.new w 27 (scells a b c p m))
  have B := hid (show Below w.heap.size w (w.alloc (.cells (scells a b c p m) 27)) from (Below.refl _ _).alloc (Nat.le_refl _) _)
  generalize (w.alloc (.cells (scells a b c p m) 27)) = w1 at Q B ⊢
  have k0 : ∀ d os, (Go.Sort.grow (redrawn w1 d) os).cell? ⟨w.heap.size, 0, none⟩ = some (.int .u64 a) := fun d os => (blk_gr Q.out d os).cell 0
  have k1 : ∀ d os, (Go.Sort.grow (redrawn w1 d) os).cell? ⟨w.heap.size, 1, none⟩ = some (.int .u64 b) := fun d os => (blk_gr Q.out d os).cell 1
  have k2 : ∀ d os, (Go.Sort.grow (redrawn w1 d) os).cell? ⟨w.heap.size, 2, none⟩ = some (.int .u64 c) := fun d os => (blk_gr Q.out d os).cell 2
  have k3 : ∀ d os, (Go.Sort.grow (redrawn w1 d) os).cell? ⟨w.heap.size, 3, none⟩ = some (.string p) := fun d os => (blk_gr Q.out d os).cell 3
  have k4 : ∀ d os, (Go.Sort.grow (redrawn w1 d) os).cell? ⟨w.heap.size, 4, none⟩ = some (.string m) := fun d os => (blk_gr Q.out d os).cell 4
  have CX := hid (fun d os => Calls.regrown_of (hX.out (Go.Sort.grow (redrawn w1 d) os)))
  have CY := hid (fun d os => Calls.regrown_of (hY.out (Go.Sort.grow (redrawn w1 d) os)))
  have CZ := hid (fun d os => Calls.regrown_of (hZ.out (Go.Sort.grow (redrawn w1 d) os)))
  refine wp_region_quiet_below (by kernel_rfl) (by kernel_rfl) ?_
  repeat (go_big_quiet_step ((first | (go_at_call_of 24 (Value.int IntKind.u64 a); exact CX.out _ _) | (go_at_call_of 24 (Value.int IntKind.u64 b); exact CY.out _ _) | (go_at_call_of 24 (Value.int IntKind.u64 c); exact CZ.out _ _) | fail)))
  refine wpQuiet_nil ?_
  intro _ hw'
  obtain ⟨⟨dq, osq⟩, hw''⟩ := hw'
  subst hw''
  go_wp2_with fail
  go_ret
  exact ⟨rfl, btx B.out (below_regrown _ _ _)⟩

set_option maxHeartbeats 1600000 in
set_option maxRecDepth 100000 in
theorem str_pm (a b c : Int) (X Y Z p m : ByteArray) (w : World) (hX : Hid (∀ w, Tab w → Calls Tryd.prog 33 #[.int .u64 a, .int .i64 10] w fun e w' => e = .returned (.string X) ∧ Below w.heap.size w w')) (hY : Hid (∀ w, Tab w → Calls Tryd.prog 33 #[.int .u64 b, .int .i64 10] w fun e w' => e = .returned (.string Y) ∧ Below w.heap.size w w')) (hZ : Hid (∀ w, Tab w → Calls Tryd.prog 33 #[.int .u64 c, .int .i64 10] w fun e w' => e = .returned (.string Z) ∧ Below w.heap.size w w')) (zX : X.size ≤ 20) (zY : Y.size ≤ 20) (zZ : Z.size ≤ 20) (zp : p.size ≤ 2147483647) (zm : m.size ≤ 2147483647) (hp : p.toList.isEmpty = false) (hm : m.toList.isEmpty = false) (ht : Tab w) :
    Calls Tryd.prog 23 #[.agg (vcells a b c p m)] w fun e w' => e = .returned (.string (X ++ ⟨#[46]⟩ ++ Y ++ ⟨#[46]⟩ ++ Z ++ (⟨#[45]⟩ ++ p) ++ (⟨#[43]⟩ ++ m))) ∧ Below w.heap.size w w' := by
  have f0 : ¬ 9223372036854775807 < X.size + 1 := by omega
  have f1 : ¬ 9223372036854775807 < X.size + 1 + Y.size := by omega
  have f2 : ¬ 9223372036854775807 < X.size + 1 + Y.size + 1 := by omega
  have f3 : ¬ 9223372036854775807 < X.size + 1 + Y.size + 1 + Z.size := by omega
  have f4 : ¬ 9223372036854775807 < 1 + p.size := by omega
  have f5 : ¬ 9223372036854775807 < X.size + 1 + Y.size + 1 + Z.size + (1 + p.size) := by omega
  have f6 : ¬ 9223372036854775807 < 1 + m.size := by omega
  have f7 : ¬ 9223372036854775807 < X.size + 1 + Y.size + 1 + Z.size + (1 + p.size) + (1 + m.size) := by omega

  clear zX zY zZ zp zm
  go_enter Tryd.func23, Tryd.ntmps23
  go_wp2_with fail
  have Q := hid (Blk.new w 43 (vcells a b c p m))
  have B := hid (show Below w.heap.size w (w.alloc (.cells (vcells a b c p m) 43)) from (Below.refl _ _).alloc (Nat.le_refl _) _)
  generalize (w.alloc (.cells (vcells a b c p m) 43)) = w1 at Q B ⊢
  have HT := hid (tab_below ht B.out)
  clear ht
  have k0 : ∀ d os, (Go.Sort.grow (redrawn w1 d) os).cell? ⟨w.heap.size, 0, none⟩ = some (.int .u64 a) := fun d os => (blk_gr Q.out d os).cell 0
  have k1 : ∀ d os, (Go.Sort.grow (redrawn w1 d) os).cell? ⟨w.heap.size, 1, none⟩ = some (.int .u64 b) := fun d os => (blk_gr Q.out d os).cell 1
  have k2 : ∀ d os, (Go.Sort.grow (redrawn w1 d) os).cell? ⟨w.heap.size, 2, none⟩ = some (.int .u64 c) := fun d os => (blk_gr Q.out d os).cell 2
  have k3 : ∀ d os, (Go.Sort.grow (redrawn w1 d) os).cell? ⟨w.heap.size, 3, none⟩ = some (.string p) := fun d os => (blk_gr Q.out d os).cell 3
  have k4 : ∀ d os, (Go.Sort.grow (redrawn w1 d) os).cell? ⟨w.heap.size, 4, none⟩ = some (.string m) := fun d os => (blk_gr Q.out d os).cell 4
  have CX := hid (fun d os => Calls.regrown_of (hX.out (Go.Sort.grow (redrawn w1 d) os) (tab_below HT.out (below_regrown w1 d os))))
  have CY := hid (fun d os => Calls.regrown_of (hY.out (Go.Sort.grow (redrawn w1 d) os) (tab_below HT.out (below_regrown w1 d os))))
  have CZ := hid (fun d os => Calls.regrown_of (hZ.out (Go.Sort.grow (redrawn w1 d) os) (tab_below HT.out (below_regrown w1 d os))))
  refine wp_region_quiet_below (by kernel_rfl) (by kernel_rfl) ?_
  repeat (go_big_quiet_step ((first | (go_at_call_of 33 (Value.int IntKind.u64 a); exact CX.out _ _) | (go_at_call_of 33 (Value.int IntKind.u64 b); exact CY.out _ _) | (go_at_call_of 33 (Value.int IntKind.u64 c); exact CZ.out _ _) | fail)))
  refine wpQuiet_nil ?_
  intro _ hw'
  obtain ⟨⟨dq, osq⟩, hw''⟩ := hw'
  subst hw''
  go_wp2_with fail
  go_ret
  exact ⟨rfl, btx B.out (below_regrown _ _ _)⟩

set_option maxHeartbeats 1600000 in
set_option maxRecDepth 100000 in
theorem svt_pm (a b c : Int) (X Y Z p m : ByteArray) (w : World) (hX : Hid (∀ w, Calls Tryd.prog 24 #[.int .u64 a] w fun e w' => e = .returned (.string X) ∧ Below w.heap.size w w')) (hY : Hid (∀ w, Calls Tryd.prog 24 #[.int .u64 b] w fun e w' => e = .returned (.string Y) ∧ Below w.heap.size w w')) (hZ : Hid (∀ w, Calls Tryd.prog 24 #[.int .u64 c] w fun e w' => e = .returned (.string Z) ∧ Below w.heap.size w w')) (zX : X.size ≤ 20) (zY : Y.size ≤ 20) (zZ : Z.size ≤ 20) (zp : p.size ≤ 2147483647) (zm : m.size ≤ 2147483647) (hp : p.toList.isEmpty = false) (hm : m.toList.isEmpty = false) :
    Calls Tryd.prog 13 #[.agg (scells a b c p m)] w fun e w' => e = .returned (.string (X ++ ⟨#[46]⟩ ++ Y ++ ⟨#[46]⟩ ++ Z ++ (⟨#[45]⟩ ++ p) ++ (⟨#[43]⟩ ++ m))) ∧ Below w.heap.size w w' := by
  have f0 : ¬ 9223372036854775807 < X.size + 1 := by omega
  have f1 : ¬ 9223372036854775807 < X.size + 1 + Y.size := by omega
  have f2 : ¬ 9223372036854775807 < X.size + 1 + Y.size + 1 := by omega
  have f3 : ¬ 9223372036854775807 < X.size + 1 + Y.size + 1 + Z.size := by omega
  have f4 : ¬ 9223372036854775807 < 1 + p.size := by omega
  have f5 : ¬ 9223372036854775807 < X.size + 1 + Y.size + 1 + Z.size + (1 + p.size) := by omega
  have f6 : ¬ 9223372036854775807 < 1 + m.size := by omega
  have f7 : ¬ 9223372036854775807 < X.size + 1 + Y.size + 1 + Z.size + (1 + p.size) + (1 + m.size) := by omega

  clear zX zY zZ zp zm
  go_enter Tryd.func13, Tryd.ntmps13
  go_wp2_with fail
  have Q := hid (Blk.new w 27 (scells a b c p m))
  have B := hid (show Below w.heap.size w (w.alloc (.cells (scells a b c p m) 27)) from (Below.refl _ _).alloc (Nat.le_refl _) _)
  generalize (w.alloc (.cells (scells a b c p m) 27)) = w1 at Q B ⊢
  have k0 : ∀ d os, (Go.Sort.grow (redrawn w1 d) os).cell? ⟨w.heap.size, 0, none⟩ = some (.int .u64 a) := fun d os => (blk_gr Q.out d os).cell 0
  have k1 : ∀ d os, (Go.Sort.grow (redrawn w1 d) os).cell? ⟨w.heap.size, 1, none⟩ = some (.int .u64 b) := fun d os => (blk_gr Q.out d os).cell 1
  have k2 : ∀ d os, (Go.Sort.grow (redrawn w1 d) os).cell? ⟨w.heap.size, 2, none⟩ = some (.int .u64 c) := fun d os => (blk_gr Q.out d os).cell 2
  have k3 : ∀ d os, (Go.Sort.grow (redrawn w1 d) os).cell? ⟨w.heap.size, 3, none⟩ = some (.string p) := fun d os => (blk_gr Q.out d os).cell 3
  have k4 : ∀ d os, (Go.Sort.grow (redrawn w1 d) os).cell? ⟨w.heap.size, 4, none⟩ = some (.string m) := fun d os => (blk_gr Q.out d os).cell 4
  have CX := hid (fun d os => Calls.regrown_of (hX.out (Go.Sort.grow (redrawn w1 d) os)))
  have CY := hid (fun d os => Calls.regrown_of (hY.out (Go.Sort.grow (redrawn w1 d) os)))
  have CZ := hid (fun d os => Calls.regrown_of (hZ.out (Go.Sort.grow (redrawn w1 d) os)))
  refine wp_region_quiet_below (by kernel_rfl) (by kernel_rfl) ?_
  repeat (go_big_quiet_step ((first | (go_at_call_of 24 (Value.int IntKind.u64 a); exact CX.out _ _) | (go_at_call_of 24 (Value.int IntKind.u64 b); exact CY.out _ _) | (go_at_call_of 24 (Value.int IntKind.u64 c); exact CZ.out _ _) | fail)))
  refine wpQuiet_nil ?_
  intro _ hw'
  obtain ⟨⟨dq, osq⟩, hw''⟩ := hw'
  subst hw''
  go_wp2_with fail
  go_ret
  exact ⟨rfl, btx B.out (below_regrown _ _ _)⟩

theorem str_all (a b c : Int) (X Y Z p m : ByteArray) (w : World) (hX : Hid (∀ w, Tab w → Calls Tryd.prog 33 #[.int .u64 a, .int .i64 10] w fun e w' => e = .returned (.string X) ∧ Below w.heap.size w w')) (hY : Hid (∀ w, Tab w → Calls Tryd.prog 33 #[.int .u64 b, .int .i64 10] w fun e w' => e = .returned (.string Y) ∧ Below w.heap.size w w')) (hZ : Hid (∀ w, Tab w → Calls Tryd.prog 33 #[.int .u64 c, .int .i64 10] w fun e w' => e = .returned (.string Z) ∧ Below w.heap.size w w')) (zX : X.size ≤ 20) (zY : Y.size ≤ 20) (zZ : Z.size ≤ 20) (zp : p.size ≤ 2147483647) (zm : m.size ≤ 2147483647) (ht : Tab w) : Calls Tryd.prog 23 #[.agg (vcells a b c p m)] w fun e w' => e = .returned (.string (txt X Y Z p m)) ∧ Below w.heap.size w w' := by
  cases hp : p.toList.isEmpty <;> cases hm : m.toList.isEmpty <;> simp only [txt, hp, hm, if_true, Bool.false_eq_true, if_false]
  · exact str_pm a b c X Y Z p m w hX hY hZ zX zY zZ zp zm hp hm ht
  · exact str_pe a b c X Y Z p m w hX hY hZ zX zY zZ zp zm hp hm ht
  · exact str_em a b c X Y Z p m w hX hY hZ zX zY zZ zp zm hp hm ht
  · exact str_ee a b c X Y Z p m w hX hY hZ zX zY zZ zp zm hp hm ht

theorem svt_all (a b c : Int) (X Y Z p m : ByteArray) (w : World) (hX : Hid (∀ w, Calls Tryd.prog 24 #[.int .u64 a] w fun e w' => e = .returned (.string X) ∧ Below w.heap.size w w')) (hY : Hid (∀ w, Calls Tryd.prog 24 #[.int .u64 b] w fun e w' => e = .returned (.string Y) ∧ Below w.heap.size w w')) (hZ : Hid (∀ w, Calls Tryd.prog 24 #[.int .u64 c] w fun e w' => e = .returned (.string Z) ∧ Below w.heap.size w w')) (zX : X.size ≤ 20) (zY : Y.size ≤ 20) (zZ : Z.size ≤ 20) (zp : p.size ≤ 2147483647) (zm : m.size ≤ 2147483647) : Calls Tryd.prog 13 #[.agg (scells a b c p m)] w fun e w' => e = .returned (.string (txt X Y Z p m)) ∧ Below w.heap.size w w' := by
  cases hp : p.toList.isEmpty <;> cases hm : m.toList.isEmpty <;> simp only [txt, hp, hm, if_true, Bool.false_eq_true, if_false]
  · exact svt_pm a b c X Y Z p m w hX hY hZ zX zY zZ zp zm hp hm
  · exact svt_pe a b c X Y Z p m w hX hY hZ zX zY zZ zp zm hp hm
  · exact svt_em a b c X Y Z p m w hX hY hZ zX zY zZ zp zm hp hm
  · exact svt_ee a b c X Y Z p m w hX hY hZ zX zY zZ zp zm hp hm

theorem string_any (a b c : Nat) (p m : ByteArray) (w : World) (ha : a < 18446744073709551616) (hb : b < 18446744073709551616) (hc : c < 18446744073709551616) (zp : p.size ≤ 2147483647) (zm : m.size ≤ 2147483647) (ht : Tab w) :
    Calls Tryd.prog 23 #[.agg (vcells a b c p m)] w fun e w' => e = .returned (.string (txt (dec a) (dec b) (dec c) p m)) ∧ Below w.heap.size w w' :=
  str_all a b c _ _ _ p m w (hid fun w h => fmt_any a ha w h) (hid fun w h => fmt_any b hb w h) (hid fun w h => fmt_any c hc w h) (dec_size a ha) (dec_size b hb) (dec_size c hc) zp zm ht
theorem specText_any (a b c : Nat) (p m : ByteArray) (w : World) (ha : a < 18446744073709551616) (hb : b < 18446744073709551616) (hc : c < 18446744073709551616) (zp : p.size ≤ 2147483647) (zm : m.size ≤ 2147483647) :
    Calls Tryd.prog 13 #[.agg (scells a b c p m)] w fun e w' => e = .returned (.string (txt (dec a) (dec b) (dec c) p m)) ∧ Below w.heap.size w w' :=
  svt_all a b c _ _ _ p m w (hid fun w => decimal_any a ha w) (hid fun w => decimal_any b hb w) (hid fun w => decimal_any c hc w) (dec_size a ha) (dec_size b hb) (dec_size c hc) zp zm
end Go.Proofs.YtknjengnipidoaaDoor
