/- The semver package's comparison of two versions, walked. -/
import Derived.Test.YtkohcmgckkenpaaDoorVerA
import Derived.Deep.QuietTactic
set_option linter.unusedVariables false
set_option linter.unusedSimpArgs false
namespace Go.Proofs.YtkohcmgckkenpaaDoor
open Go.RowKit

/-- The cells of a version of the package lie from block g on. -/
def V6 (w : World) (g : Nat) (a b c : Int) (p m : ByteArray) : Prop :=
  w.cell? ⟨g, 0, none⟩ = some (.int .u64 a) ∧ w.cell? ⟨g, 1, none⟩ = some (.int .u64 b) ∧ w.cell? ⟨g, 2, none⟩ = some (.int .u64 c) ∧ w.cell? ⟨g, 3, none⟩ = some (.string p) ∧ w.cell? ⟨g, 4, none⟩ = some (.string m) ∧ w.cell? ⟨g, 5, none⟩ = some (.string ByteArray.empty)
theorem V6.below {w w' : World} {g : Nat} {a b c : Int} {p m : ByteArray} (h : V6 w g a b c p m) (hb : Below w.heap.size w w') : V6 w' g a b c p m := by
  obtain ⟨h0, h1, h2, h3, h4, h5⟩ := h
  have l := World.block_lt_of_cell? w _ h0
  obtain ⟨k, _⟩ := bcell hb
  exact ⟨(k _ _ l).trans h0, (k _ _ l).trans h1, (k _ _ l).trans h2, (k _ _ l).trans h3, (k _ _ l).trans h4, (k _ _ l).trans h5⟩
theorem V6.new (w : World) (t : TypeId) (a b c : Int) (p m : ByteArray) : V6 (w.alloc (.cells (vcells a b c p m) t)) w.heap.size a b c p m := by
  have h := Blk.new w t (vcells a b c p m)
  exact ⟨h.cell 0, h.cell 1, h.cell 2, h.cell 3, h.cell 4, h.cell 5⟩

/-- What a call does on top of what was done. -/
theorem bt {w w1 w2 : World} (h : Below w.heap.size w w1) (k : Below w1.heap.size w1 w2) : Below w.heap.size w w2 := h.trans (k.mono h.size)

def numC (a b c d e f : Int) : Int := if segC a d = 0 then (if segC b e = 0 then segC c f else segC b e) else segC a d

theorem segment_zero (a b : Int) (h : segC a b = 0) (w : World) : Calls Tryd.prog 64 #[.int .u64 a, .int .u64 b] w fun e w' => e = .returned (.int .i64 0) ∧ w = w' := h ▸ segment_any a b w
theorem keep12 {g h : Nat} {a b c : Int} {p m : ByteArray} {a' b' c' : Int} {p' m' : ByteArray} {w w' : World} (hx : V6 w g a b c p m) (hy : V6 w h a' b' c' p' m') (hb : Below w.heap.size w w') : w'.cell? ⟨g, 0, none⟩ = some (.int .u64 a) ∧ w'.cell? ⟨g, 1, none⟩ = some (.int .u64 b) ∧ w'.cell? ⟨g, 2, none⟩ = some (.int .u64 c) ∧ w'.cell? ⟨g, 3, none⟩ = some (.string p) ∧ w'.cell? ⟨g, 4, none⟩ = some (.string m) ∧ w'.cell? ⟨g, 5, none⟩ = some (.string ByteArray.empty) ∧ w'.cell? ⟨h, 0, none⟩ = some (.int .u64 a') ∧ w'.cell? ⟨h, 1, none⟩ = some (.int .u64 b') ∧ w'.cell? ⟨h, 2, none⟩ = some (.int .u64 c') ∧ w'.cell? ⟨h, 3, none⟩ = some (.string p') ∧ w'.cell? ⟨h, 4, none⟩ = some (.string m') ∧ w'.cell? ⟨h, 5, none⟩ = some (.string ByteArray.empty) := by
  obtain ⟨x0, x1, x2, x3, x4, x5⟩ := hx.below hb
  obtain ⟨y0, y1, y2, y3, y4, y5⟩ := hy.below hb
  exact ⟨x0, x1, x2, x3, x4, x5, y0, y1, y2, y3, y4, y5⟩
theorem segment_at (a b n : Int) (h : segC a b = n) (w : World) : Calls Tryd.prog 64 #[.int .u64 a, .int .u64 b] w fun e w' => e = .returned (.int .i64 n) ∧ w = w' := h ▸ segment_any a b w
set_option maxRecDepth 100000 in
theorem compare_major (g h : Nat) (a b c : Int) (p m : ByteArray) (a' b' c' : Int) (p' m' : ByteArray) (w : World) (hx : V6 w g a b c p m) (hy : V6 w h a' b' c' p' m') (hn : segC a a' ≠ 0) :
    Calls Tryd.prog 60 #[.pointer (some ⟨g, 0, none⟩), .pointer (some ⟨h, 0, none⟩)] w fun e w' => e = .returned (.int .i64 (segC a a')) ∧ Below w.heap.size w w' := by
  have HX := hid hx
  have HY := hid hy
  have lg := World.block_lt_of_cell? w _ hx.1
  have lh := World.block_lt_of_cell? w _ hy.1
  obtain ⟨x0, x1, x2, x3, x4, x5⟩ := hx
  obtain ⟨y0, y1, y2, y3, y4, y5⟩ := hy
  have hf : (segC a a' == 0) = false := by simpa using hn
  go_enter Tryd.func60, Tryd.ntmps60
  go_wp2_with fail
  go_region_held3 (fun w' => w'.cell? ⟨g, 0, none⟩ = some (.int .u64 a) ∧ w'.cell? ⟨g, 1, none⟩ = some (.int .u64 b) ∧ w'.cell? ⟨g, 2, none⟩ = some (.int .u64 c) ∧ w'.cell? ⟨g, 3, none⟩ = some (.string p) ∧ w'.cell? ⟨g, 4, none⟩ = some (.string m) ∧ w'.cell? ⟨g, 5, none⟩ = some (.string ByteArray.empty) ∧ w'.cell? ⟨h, 0, none⟩ = some (.int .u64 a') ∧ w'.cell? ⟨h, 1, none⟩ = some (.int .u64 b') ∧ w'.cell? ⟨h, 2, none⟩ = some (.int .u64 c') ∧ w'.cell? ⟨h, 3, none⟩ = some (.string p') ∧ w'.cell? ⟨h, 4, none⟩ = some (.string m') ∧ w'.cell? ⟨h, 5, none⟩ = some (.string ByteArray.empty)) (exact keep12 HX.out HY.out (by go_grown))
    (first
      | (go_at_call 56; refine (major_any a b c p m _).mono ?_; rintro e w' ⟨rfl, rfl⟩)
      | (go_at_call 56; refine (major_any a' b' c' p' m' _).mono ?_; rintro e w' ⟨rfl, rfl⟩)
      | (go_at_call 64; refine (segment_any a a' _).mono ?_; rintro e w' ⟨rfl, rfl⟩))
  go_wp2_with fail
  go_ret
  exact ⟨rfl, by go_grown⟩
set_option maxRecDepth 100000 in
theorem compare_minor (g h : Nat) (a b c : Int) (p m : ByteArray) (a' b' c' : Int) (p' m' : ByteArray) (w : World) (hx : V6 w g a b c p m) (hy : V6 w h a' b' c' p' m') (za : segC a a' = 0) (hn : segC b b' ≠ 0) :
    Calls Tryd.prog 60 #[.pointer (some ⟨g, 0, none⟩), .pointer (some ⟨h, 0, none⟩)] w fun e w' => e = .returned (.int .i64 (segC b b')) ∧ Below w.heap.size w w' := by
  have HX := hid hx
  have HY := hid hy
  have lg := World.block_lt_of_cell? w _ hx.1
  have lh := World.block_lt_of_cell? w _ hy.1
  obtain ⟨x0, x1, x2, x3, x4, x5⟩ := hx
  obtain ⟨y0, y1, y2, y3, y4, y5⟩ := hy
  have hf : (segC b b' == 0) = false := by simpa using hn
  go_enter Tryd.func60, Tryd.ntmps60
  go_wp2_with fail
  go_region_held3 (fun w' => w'.cell? ⟨g, 0, none⟩ = some (.int .u64 a) ∧ w'.cell? ⟨g, 1, none⟩ = some (.int .u64 b) ∧ w'.cell? ⟨g, 2, none⟩ = some (.int .u64 c) ∧ w'.cell? ⟨g, 3, none⟩ = some (.string p) ∧ w'.cell? ⟨g, 4, none⟩ = some (.string m) ∧ w'.cell? ⟨g, 5, none⟩ = some (.string ByteArray.empty) ∧ w'.cell? ⟨h, 0, none⟩ = some (.int .u64 a') ∧ w'.cell? ⟨h, 1, none⟩ = some (.int .u64 b') ∧ w'.cell? ⟨h, 2, none⟩ = some (.int .u64 c') ∧ w'.cell? ⟨h, 3, none⟩ = some (.string p') ∧ w'.cell? ⟨h, 4, none⟩ = some (.string m') ∧ w'.cell? ⟨h, 5, none⟩ = some (.string ByteArray.empty)) (exact keep12 HX.out HY.out (by go_grown))
    (first
      | (go_at_call 56; refine (major_any a b c p m _).mono ?_; rintro e w' ⟨rfl, rfl⟩)
      | (go_at_call 56; refine (major_any a' b' c' p' m' _).mono ?_; rintro e w' ⟨rfl, rfl⟩)
      | (go_at_call 64; refine (segment_zero a a' za _).mono ?_; rintro e w' ⟨rfl, rfl⟩))
  go_wp2_with fail
  go_region_held3 (fun w' => w'.cell? ⟨g, 0, none⟩ = some (.int .u64 a) ∧ w'.cell? ⟨g, 1, none⟩ = some (.int .u64 b) ∧ w'.cell? ⟨g, 2, none⟩ = some (.int .u64 c) ∧ w'.cell? ⟨g, 3, none⟩ = some (.string p) ∧ w'.cell? ⟨g, 4, none⟩ = some (.string m) ∧ w'.cell? ⟨g, 5, none⟩ = some (.string ByteArray.empty) ∧ w'.cell? ⟨h, 0, none⟩ = some (.int .u64 a') ∧ w'.cell? ⟨h, 1, none⟩ = some (.int .u64 b') ∧ w'.cell? ⟨h, 2, none⟩ = some (.int .u64 c') ∧ w'.cell? ⟨h, 3, none⟩ = some (.string p') ∧ w'.cell? ⟨h, 4, none⟩ = some (.string m') ∧ w'.cell? ⟨h, 5, none⟩ = some (.string ByteArray.empty)) (exact keep12 HX.out HY.out (by go_grown))
    (first
      | (go_at_call 57; refine (minor_any a b c p m _).mono ?_; rintro e w' ⟨rfl, rfl⟩)
      | (go_at_call 57; refine (minor_any a' b' c' p' m' _).mono ?_; rintro e w' ⟨rfl, rfl⟩)
      | (go_at_call 64; refine (segment_any b b' _).mono ?_; rintro e w' ⟨rfl, rfl⟩))
  go_wp2_with fail
  go_ret
  exact ⟨rfl, by go_grown⟩
set_option maxRecDepth 100000 in
theorem compare_patch (g h : Nat) (a b c : Int) (p m : ByteArray) (a' b' c' : Int) (p' m' : ByteArray) (w : World) (hx : V6 w g a b c p m) (hy : V6 w h a' b' c' p' m') (za : segC a a' = 0) (zb : segC b b' = 0) (hn : segC c c' ≠ 0) :
    Calls Tryd.prog 60 #[.pointer (some ⟨g, 0, none⟩), .pointer (some ⟨h, 0, none⟩)] w fun e w' => e = .returned (.int .i64 (segC c c')) ∧ Below w.heap.size w w' := by
  have HX := hid hx
  have HY := hid hy
  have lg := World.block_lt_of_cell? w _ hx.1
  have lh := World.block_lt_of_cell? w _ hy.1
  obtain ⟨x0, x1, x2, x3, x4, x5⟩ := hx
  obtain ⟨y0, y1, y2, y3, y4, y5⟩ := hy
  have hf : (segC c c' == 0) = false := by simpa using hn
  go_enter Tryd.func60, Tryd.ntmps60
  go_wp2_with fail
  go_region_held3 (fun w' => w'.cell? ⟨g, 0, none⟩ = some (.int .u64 a) ∧ w'.cell? ⟨g, 1, none⟩ = some (.int .u64 b) ∧ w'.cell? ⟨g, 2, none⟩ = some (.int .u64 c) ∧ w'.cell? ⟨g, 3, none⟩ = some (.string p) ∧ w'.cell? ⟨g, 4, none⟩ = some (.string m) ∧ w'.cell? ⟨g, 5, none⟩ = some (.string ByteArray.empty) ∧ w'.cell? ⟨h, 0, none⟩ = some (.int .u64 a') ∧ w'.cell? ⟨h, 1, none⟩ = some (.int .u64 b') ∧ w'.cell? ⟨h, 2, none⟩ = some (.int .u64 c') ∧ w'.cell? ⟨h, 3, none⟩ = some (.string p') ∧ w'.cell? ⟨h, 4, none⟩ = some (.string m') ∧ w'.cell? ⟨h, 5, none⟩ = some (.string ByteArray.empty)) (exact keep12 HX.out HY.out (by go_grown))
    (first
      | (go_at_call 56; refine (major_any a b c p m _).mono ?_; rintro e w' ⟨rfl, rfl⟩)
      | (go_at_call 56; refine (major_any a' b' c' p' m' _).mono ?_; rintro e w' ⟨rfl, rfl⟩)
      | (go_at_call 64; refine (segment_zero a a' za _).mono ?_; rintro e w' ⟨rfl, rfl⟩))
  go_wp2_with fail
  go_region_held3 (fun w' => w'.cell? ⟨g, 0, none⟩ = some (.int .u64 a) ∧ w'.cell? ⟨g, 1, none⟩ = some (.int .u64 b) ∧ w'.cell? ⟨g, 2, none⟩ = some (.int .u64 c) ∧ w'.cell? ⟨g, 3, none⟩ = some (.string p) ∧ w'.cell? ⟨g, 4, none⟩ = some (.string m) ∧ w'.cell? ⟨g, 5, none⟩ = some (.string ByteArray.empty) ∧ w'.cell? ⟨h, 0, none⟩ = some (.int .u64 a') ∧ w'.cell? ⟨h, 1, none⟩ = some (.int .u64 b') ∧ w'.cell? ⟨h, 2, none⟩ = some (.int .u64 c') ∧ w'.cell? ⟨h, 3, none⟩ = some (.string p') ∧ w'.cell? ⟨h, 4, none⟩ = some (.string m') ∧ w'.cell? ⟨h, 5, none⟩ = some (.string ByteArray.empty)) (exact keep12 HX.out HY.out (by go_grown))
    (first
      | (go_at_call 57; refine (minor_any a b c p m _).mono ?_; rintro e w' ⟨rfl, rfl⟩)
      | (go_at_call 57; refine (minor_any a' b' c' p' m' _).mono ?_; rintro e w' ⟨rfl, rfl⟩)
      | (go_at_call 64; refine (segment_zero b b' zb _).mono ?_; rintro e w' ⟨rfl, rfl⟩))
  go_wp2_with fail
  go_region_held3 (fun w' => w'.cell? ⟨g, 0, none⟩ = some (.int .u64 a) ∧ w'.cell? ⟨g, 1, none⟩ = some (.int .u64 b) ∧ w'.cell? ⟨g, 2, none⟩ = some (.int .u64 c) ∧ w'.cell? ⟨g, 3, none⟩ = some (.string p) ∧ w'.cell? ⟨g, 4, none⟩ = some (.string m) ∧ w'.cell? ⟨g, 5, none⟩ = some (.string ByteArray.empty) ∧ w'.cell? ⟨h, 0, none⟩ = some (.int .u64 a') ∧ w'.cell? ⟨h, 1, none⟩ = some (.int .u64 b') ∧ w'.cell? ⟨h, 2, none⟩ = some (.int .u64 c') ∧ w'.cell? ⟨h, 3, none⟩ = some (.string p') ∧ w'.cell? ⟨h, 4, none⟩ = some (.string m') ∧ w'.cell? ⟨h, 5, none⟩ = some (.string ByteArray.empty)) (exact keep12 HX.out HY.out (by go_grown))
    (first
      | (go_at_call 58; refine (patch_any a b c p m _).mono ?_; rintro e w' ⟨rfl, rfl⟩)
      | (go_at_call 58; refine (patch_any a' b' c' p' m' _).mono ?_; rintro e w' ⟨rfl, rfl⟩)
      | (go_at_call 64; refine (segment_any c c' _).mono ?_; rintro e w' ⟨rfl, rfl⟩))
  go_wp2_with fail
  go_ret
  exact ⟨rfl, by go_grown⟩
set_option maxRecDepth 100000 in
theorem compare_none (g h : Nat) (a b c : Int) (p m : ByteArray) (a' b' c' : Int) (p' m' : ByteArray) (w : World) (hx : V6 w g a b c p m) (hy : V6 w h a' b' c' p' m') (za : segC a a' = 0) (zb : segC b b' = 0) (zc : segC c c' = 0) (h0 : p.toList.isEmpty = true) (h1 : p'.toList.isEmpty = true) :
    Calls Tryd.prog 60 #[.pointer (some ⟨g, 0, none⟩), .pointer (some ⟨h, 0, none⟩)] w fun e w' => e = .returned (.int .i64 0) ∧ Below w.heap.size w w' := by
  have HX := hid hx
  have HY := hid hy
  have lg := World.block_lt_of_cell? w _ hx.1
  have lh := World.block_lt_of_cell? w _ hy.1
  obtain ⟨x0, x1, x2, x3, x4, x5⟩ := hx
  obtain ⟨y0, y1, y2, y3, y4, y5⟩ := hy
  go_enter Tryd.func60, Tryd.ntmps60
  go_wp2_with fail
  go_region_held3 (fun w' => w'.cell? ⟨g, 0, none⟩ = some (.int .u64 a) ∧ w'.cell? ⟨g, 1, none⟩ = some (.int .u64 b) ∧ w'.cell? ⟨g, 2, none⟩ = some (.int .u64 c) ∧ w'.cell? ⟨g, 3, none⟩ = some (.string p) ∧ w'.cell? ⟨g, 4, none⟩ = some (.string m) ∧ w'.cell? ⟨g, 5, none⟩ = some (.string ByteArray.empty) ∧ w'.cell? ⟨h, 0, none⟩ = some (.int .u64 a') ∧ w'.cell? ⟨h, 1, none⟩ = some (.int .u64 b') ∧ w'.cell? ⟨h, 2, none⟩ = some (.int .u64 c') ∧ w'.cell? ⟨h, 3, none⟩ = some (.string p') ∧ w'.cell? ⟨h, 4, none⟩ = some (.string m') ∧ w'.cell? ⟨h, 5, none⟩ = some (.string ByteArray.empty)) (exact keep12 HX.out HY.out (by go_grown))
    (first
      | (go_at_call 56; refine (major_any a b c p m _).mono ?_; rintro e w' ⟨rfl, rfl⟩)
      | (go_at_call 56; refine (major_any a' b' c' p' m' _).mono ?_; rintro e w' ⟨rfl, rfl⟩)
      | (go_at_call 64; refine (segment_zero a a' za _).mono ?_; rintro e w' ⟨rfl, rfl⟩))
  go_wp2_with fail
  go_region_held3 (fun w' => w'.cell? ⟨g, 0, none⟩ = some (.int .u64 a) ∧ w'.cell? ⟨g, 1, none⟩ = some (.int .u64 b) ∧ w'.cell? ⟨g, 2, none⟩ = some (.int .u64 c) ∧ w'.cell? ⟨g, 3, none⟩ = some (.string p) ∧ w'.cell? ⟨g, 4, none⟩ = some (.string m) ∧ w'.cell? ⟨g, 5, none⟩ = some (.string ByteArray.empty) ∧ w'.cell? ⟨h, 0, none⟩ = some (.int .u64 a') ∧ w'.cell? ⟨h, 1, none⟩ = some (.int .u64 b') ∧ w'.cell? ⟨h, 2, none⟩ = some (.int .u64 c') ∧ w'.cell? ⟨h, 3, none⟩ = some (.string p') ∧ w'.cell? ⟨h, 4, none⟩ = some (.string m') ∧ w'.cell? ⟨h, 5, none⟩ = some (.string ByteArray.empty)) (exact keep12 HX.out HY.out (by go_grown))
    (first
      | (go_at_call 57; refine (minor_any a b c p m _).mono ?_; rintro e w' ⟨rfl, rfl⟩)
      | (go_at_call 57; refine (minor_any a' b' c' p' m' _).mono ?_; rintro e w' ⟨rfl, rfl⟩)
      | (go_at_call 64; refine (segment_zero b b' zb _).mono ?_; rintro e w' ⟨rfl, rfl⟩))
  go_wp2_with fail
  go_region_held3 (fun w' => w'.cell? ⟨g, 0, none⟩ = some (.int .u64 a) ∧ w'.cell? ⟨g, 1, none⟩ = some (.int .u64 b) ∧ w'.cell? ⟨g, 2, none⟩ = some (.int .u64 c) ∧ w'.cell? ⟨g, 3, none⟩ = some (.string p) ∧ w'.cell? ⟨g, 4, none⟩ = some (.string m) ∧ w'.cell? ⟨g, 5, none⟩ = some (.string ByteArray.empty) ∧ w'.cell? ⟨h, 0, none⟩ = some (.int .u64 a') ∧ w'.cell? ⟨h, 1, none⟩ = some (.int .u64 b') ∧ w'.cell? ⟨h, 2, none⟩ = some (.int .u64 c') ∧ w'.cell? ⟨h, 3, none⟩ = some (.string p') ∧ w'.cell? ⟨h, 4, none⟩ = some (.string m') ∧ w'.cell? ⟨h, 5, none⟩ = some (.string ByteArray.empty)) (exact keep12 HX.out HY.out (by go_grown))
    (first
      | (go_at_call 58; refine (patch_any a b c p m _).mono ?_; rintro e w' ⟨rfl, rfl⟩)
      | (go_at_call 58; refine (patch_any a' b' c' p' m' _).mono ?_; rintro e w' ⟨rfl, rfl⟩)
      | (go_at_call 64; refine (segment_zero c c' zc _).mono ?_; rintro e w' ⟨rfl, rfl⟩))
  go_wp2_with (go_at_call 53; refine (prerelease_any a' b' c' p' m' _).mono ?_; rintro e w' ⟨rfl, rfl⟩)
  go_ret
  exact ⟨rfl, by go_grown⟩
set_option maxRecDepth 100000 in
theorem compare_release (g h : Nat) (a b c : Int) (p m : ByteArray) (a' b' c' : Int) (p' m' : ByteArray) (w : World) (hx : V6 w g a b c p m) (hy : V6 w h a' b' c' p' m') (za : segC a a' = 0) (zb : segC b b' = 0) (zc : segC c c' = 0) (h0 : p.toList.isEmpty = true) (h1 : p'.toList.isEmpty = false) :
    Calls Tryd.prog 60 #[.pointer (some ⟨g, 0, none⟩), .pointer (some ⟨h, 0, none⟩)] w fun e w' => e = .returned (.int .i64 1) ∧ Below w.heap.size w w' := by
  have HX := hid hx
  have HY := hid hy
  have lg := World.block_lt_of_cell? w _ hx.1
  have lh := World.block_lt_of_cell? w _ hy.1
  obtain ⟨x0, x1, x2, x3, x4, x5⟩ := hx
  obtain ⟨y0, y1, y2, y3, y4, y5⟩ := hy
  go_enter Tryd.func60, Tryd.ntmps60
  go_wp2_with fail
  go_region_held3 (fun w' => w'.cell? ⟨g, 0, none⟩ = some (.int .u64 a) ∧ w'.cell? ⟨g, 1, none⟩ = some (.int .u64 b) ∧ w'.cell? ⟨g, 2, none⟩ = some (.int .u64 c) ∧ w'.cell? ⟨g, 3, none⟩ = some (.string p) ∧ w'.cell? ⟨g, 4, none⟩ = some (.string m) ∧ w'.cell? ⟨g, 5, none⟩ = some (.string ByteArray.empty) ∧ w'.cell? ⟨h, 0, none⟩ = some (.int .u64 a') ∧ w'.cell? ⟨h, 1, none⟩ = some (.int .u64 b') ∧ w'.cell? ⟨h, 2, none⟩ = some (.int .u64 c') ∧ w'.cell? ⟨h, 3, none⟩ = some (.string p') ∧ w'.cell? ⟨h, 4, none⟩ = some (.string m') ∧ w'.cell? ⟨h, 5, none⟩ = some (.string ByteArray.empty)) (exact keep12 HX.out HY.out (by go_grown))
    (first
      | (go_at_call 56; refine (major_any a b c p m _).mono ?_; rintro e w' ⟨rfl, rfl⟩)
      | (go_at_call 56; refine (major_any a' b' c' p' m' _).mono ?_; rintro e w' ⟨rfl, rfl⟩)
      | (go_at_call 64; refine (segment_zero a a' za _).mono ?_; rintro e w' ⟨rfl, rfl⟩))
  go_wp2_with fail
  go_region_held3 (fun w' => w'.cell? ⟨g, 0, none⟩ = some (.int .u64 a) ∧ w'.cell? ⟨g, 1, none⟩ = some (.int .u64 b) ∧ w'.cell? ⟨g, 2, none⟩ = some (.int .u64 c) ∧ w'.cell? ⟨g, 3, none⟩ = some (.string p) ∧ w'.cell? ⟨g, 4, none⟩ = some (.string m) ∧ w'.cell? ⟨g, 5, none⟩ = some (.string ByteArray.empty) ∧ w'.cell? ⟨h, 0, none⟩ = some (.int .u64 a') ∧ w'.cell? ⟨h, 1, none⟩ = some (.int .u64 b') ∧ w'.cell? ⟨h, 2, none⟩ = some (.int .u64 c') ∧ w'.cell? ⟨h, 3, none⟩ = some (.string p') ∧ w'.cell? ⟨h, 4, none⟩ = some (.string m') ∧ w'.cell? ⟨h, 5, none⟩ = some (.string ByteArray.empty)) (exact keep12 HX.out HY.out (by go_grown))
    (first
      | (go_at_call 57; refine (minor_any a b c p m _).mono ?_; rintro e w' ⟨rfl, rfl⟩)
      | (go_at_call 57; refine (minor_any a' b' c' p' m' _).mono ?_; rintro e w' ⟨rfl, rfl⟩)
      | (go_at_call 64; refine (segment_zero b b' zb _).mono ?_; rintro e w' ⟨rfl, rfl⟩))
  go_wp2_with fail
  go_region_held3 (fun w' => w'.cell? ⟨g, 0, none⟩ = some (.int .u64 a) ∧ w'.cell? ⟨g, 1, none⟩ = some (.int .u64 b) ∧ w'.cell? ⟨g, 2, none⟩ = some (.int .u64 c) ∧ w'.cell? ⟨g, 3, none⟩ = some (.string p) ∧ w'.cell? ⟨g, 4, none⟩ = some (.string m) ∧ w'.cell? ⟨g, 5, none⟩ = some (.string ByteArray.empty) ∧ w'.cell? ⟨h, 0, none⟩ = some (.int .u64 a') ∧ w'.cell? ⟨h, 1, none⟩ = some (.int .u64 b') ∧ w'.cell? ⟨h, 2, none⟩ = some (.int .u64 c') ∧ w'.cell? ⟨h, 3, none⟩ = some (.string p') ∧ w'.cell? ⟨h, 4, none⟩ = some (.string m') ∧ w'.cell? ⟨h, 5, none⟩ = some (.string ByteArray.empty)) (exact keep12 HX.out HY.out (by go_grown))
    (first
      | (go_at_call 58; refine (patch_any a b c p m _).mono ?_; rintro e w' ⟨rfl, rfl⟩)
      | (go_at_call 58; refine (patch_any a' b' c' p' m' _).mono ?_; rintro e w' ⟨rfl, rfl⟩)
      | (go_at_call 64; refine (segment_zero c c' zc _).mono ?_; rintro e w' ⟨rfl, rfl⟩))
  go_wp2_with (go_at_call 53; refine (prerelease_any a' b' c' p' m' _).mono ?_; rintro e w' ⟨rfl, rfl⟩)
  go_ret
  exact ⟨rfl, by go_grown⟩
set_option maxRecDepth 100000 in
theorem compare_early (g h : Nat) (a b c : Int) (p m : ByteArray) (a' b' c' : Int) (p' m' : ByteArray) (w : World) (hx : V6 w g a b c p m) (hy : V6 w h a' b' c' p' m') (za : segC a a' = 0) (zb : segC b b' = 0) (zc : segC c c' = 0) (h0 : p.toList.isEmpty = false) (h1 : p'.toList.isEmpty = true) :
    Calls Tryd.prog 60 #[.pointer (some ⟨g, 0, none⟩), .pointer (some ⟨h, 0, none⟩)] w fun e w' => e = .returned (.int .i64 (-1)) ∧ Below w.heap.size w w' := by
  have HX := hid hx
  have HY := hid hy
  have lg := World.block_lt_of_cell? w _ hx.1
  have lh := World.block_lt_of_cell? w _ hy.1
  obtain ⟨x0, x1, x2, x3, x4, x5⟩ := hx
  obtain ⟨y0, y1, y2, y3, y4, y5⟩ := hy
  go_enter Tryd.func60, Tryd.ntmps60
  go_wp2_with fail
  go_region_held3 (fun w' => w'.cell? ⟨g, 0, none⟩ = some (.int .u64 a) ∧ w'.cell? ⟨g, 1, none⟩ = some (.int .u64 b) ∧ w'.cell? ⟨g, 2, none⟩ = some (.int .u64 c) ∧ w'.cell? ⟨g, 3, none⟩ = some (.string p) ∧ w'.cell? ⟨g, 4, none⟩ = some (.string m) ∧ w'.cell? ⟨g, 5, none⟩ = some (.string ByteArray.empty) ∧ w'.cell? ⟨h, 0, none⟩ = some (.int .u64 a') ∧ w'.cell? ⟨h, 1, none⟩ = some (.int .u64 b') ∧ w'.cell? ⟨h, 2, none⟩ = some (.int .u64 c') ∧ w'.cell? ⟨h, 3, none⟩ = some (.string p') ∧ w'.cell? ⟨h, 4, none⟩ = some (.string m') ∧ w'.cell? ⟨h, 5, none⟩ = some (.string ByteArray.empty)) (exact keep12 HX.out HY.out (by go_grown))
    (first
      | (go_at_call 56; refine (major_any a b c p m _).mono ?_; rintro e w' ⟨rfl, rfl⟩)
      | (go_at_call 56; refine (major_any a' b' c' p' m' _).mono ?_; rintro e w' ⟨rfl, rfl⟩)
      | (go_at_call 64; refine (segment_zero a a' za _).mono ?_; rintro e w' ⟨rfl, rfl⟩))
  go_wp2_with fail
  go_region_held3 (fun w' => w'.cell? ⟨g, 0, none⟩ = some (.int .u64 a) ∧ w'.cell? ⟨g, 1, none⟩ = some (.int .u64 b) ∧ w'.cell? ⟨g, 2, none⟩ = some (.int .u64 c) ∧ w'.cell? ⟨g, 3, none⟩ = some (.string p) ∧ w'.cell? ⟨g, 4, none⟩ = some (.string m) ∧ w'.cell? ⟨g, 5, none⟩ = some (.string ByteArray.empty) ∧ w'.cell? ⟨h, 0, none⟩ = some (.int .u64 a') ∧ w'.cell? ⟨h, 1, none⟩ = some (.int .u64 b') ∧ w'.cell? ⟨h, 2, none⟩ = some (.int .u64 c') ∧ w'.cell? ⟨h, 3, none⟩ = some (.string p') ∧ w'.cell? ⟨h, 4, none⟩ = some (.string m') ∧ w'.cell? ⟨h, 5, none⟩ = some (.string ByteArray.empty)) (exact keep12 HX.out HY.out (by go_grown))
    (first
      | (go_at_call 57; refine (minor_any a b c p m _).mono ?_; rintro e w' ⟨rfl, rfl⟩)
      | (go_at_call 57; refine (minor_any a' b' c' p' m' _).mono ?_; rintro e w' ⟨rfl, rfl⟩)
      | (go_at_call 64; refine (segment_zero b b' zb _).mono ?_; rintro e w' ⟨rfl, rfl⟩))
  go_wp2_with fail
  go_region_held3 (fun w' => w'.cell? ⟨g, 0, none⟩ = some (.int .u64 a) ∧ w'.cell? ⟨g, 1, none⟩ = some (.int .u64 b) ∧ w'.cell? ⟨g, 2, none⟩ = some (.int .u64 c) ∧ w'.cell? ⟨g, 3, none⟩ = some (.string p) ∧ w'.cell? ⟨g, 4, none⟩ = some (.string m) ∧ w'.cell? ⟨g, 5, none⟩ = some (.string ByteArray.empty) ∧ w'.cell? ⟨h, 0, none⟩ = some (.int .u64 a') ∧ w'.cell? ⟨h, 1, none⟩ = some (.int .u64 b') ∧ w'.cell? ⟨h, 2, none⟩ = some (.int .u64 c') ∧ w'.cell? ⟨h, 3, none⟩ = some (.string p') ∧ w'.cell? ⟨h, 4, none⟩ = some (.string m') ∧ w'.cell? ⟨h, 5, none⟩ = some (.string ByteArray.empty)) (exact keep12 HX.out HY.out (by go_grown))
    (first
      | (go_at_call 58; refine (patch_any a b c p m _).mono ?_; rintro e w' ⟨rfl, rfl⟩)
      | (go_at_call 58; refine (patch_any a' b' c' p' m' _).mono ?_; rintro e w' ⟨rfl, rfl⟩)
      | (go_at_call 64; refine (segment_zero c c' zc _).mono ?_; rintro e w' ⟨rfl, rfl⟩))
  go_wp2_with (go_at_call 53; refine (prerelease_any a' b' c' p' m' _).mono ?_; rintro e w' ⟨rfl, rfl⟩)
  go_ret
  exact ⟨rfl, by go_grown⟩
set_option maxRecDepth 100000 in
theorem compare_pres (g h : Nat) (a b c : Int) (p m : ByteArray) (a' b' c' : Int) (p' m' : ByteArray) (w : World) (hx : V6 w g a b c p m) (hy : V6 w h a' b' c' p' m') (za : segC a a' = 0) (zb : segC b b' = 0) (zc : segC c c' = 0) (h0 : p.toList.isEmpty = false) (h1 : p'.toList.isEmpty = false) (hv : Vars w) (n : Int)
    (hc : ∀ w, Vars w → Calls Tryd.prog 59 #[.string p, .string p'] w fun e w' => e = .returned (.int .i64 n) ∧ Below w.heap.size w w') :
    Calls Tryd.prog 60 #[.pointer (some ⟨g, 0, none⟩), .pointer (some ⟨h, 0, none⟩)] w fun e w' => e = .returned (.int .i64 n) ∧ Below w.heap.size w w' := by
  have HX := hid hx
  have HY := hid hy
  have lg := World.block_lt_of_cell? w _ hx.1
  have lh := World.block_lt_of_cell? w _ hy.1
  obtain ⟨x0, x1, x2, x3, x4, x5⟩ := hx
  obtain ⟨y0, y1, y2, y3, y4, y5⟩ := hy
  have HC := hid hc
  clear hc
  have HV := hid hv
  clear hv
  go_enter Tryd.func60, Tryd.ntmps60
  go_wp2_with fail
  go_region_held3 (fun w' => w'.cell? ⟨g, 0, none⟩ = some (.int .u64 a) ∧ w'.cell? ⟨g, 1, none⟩ = some (.int .u64 b) ∧ w'.cell? ⟨g, 2, none⟩ = some (.int .u64 c) ∧ w'.cell? ⟨g, 3, none⟩ = some (.string p) ∧ w'.cell? ⟨g, 4, none⟩ = some (.string m) ∧ w'.cell? ⟨g, 5, none⟩ = some (.string ByteArray.empty) ∧ w'.cell? ⟨h, 0, none⟩ = some (.int .u64 a') ∧ w'.cell? ⟨h, 1, none⟩ = some (.int .u64 b') ∧ w'.cell? ⟨h, 2, none⟩ = some (.int .u64 c') ∧ w'.cell? ⟨h, 3, none⟩ = some (.string p') ∧ w'.cell? ⟨h, 4, none⟩ = some (.string m') ∧ w'.cell? ⟨h, 5, none⟩ = some (.string ByteArray.empty)) (exact keep12 HX.out HY.out (by go_grown))
    (first
      | (go_at_call 56; refine (major_any a b c p m _).mono ?_; rintro e w' ⟨rfl, rfl⟩)
      | (go_at_call 56; refine (major_any a' b' c' p' m' _).mono ?_; rintro e w' ⟨rfl, rfl⟩)
      | (go_at_call 64; refine (segment_zero a a' za _).mono ?_; rintro e w' ⟨rfl, rfl⟩))
  go_wp2_with fail
  go_region_held3 (fun w' => w'.cell? ⟨g, 0, none⟩ = some (.int .u64 a) ∧ w'.cell? ⟨g, 1, none⟩ = some (.int .u64 b) ∧ w'.cell? ⟨g, 2, none⟩ = some (.int .u64 c) ∧ w'.cell? ⟨g, 3, none⟩ = some (.string p) ∧ w'.cell? ⟨g, 4, none⟩ = some (.string m) ∧ w'.cell? ⟨g, 5, none⟩ = some (.string ByteArray.empty) ∧ w'.cell? ⟨h, 0, none⟩ = some (.int .u64 a') ∧ w'.cell? ⟨h, 1, none⟩ = some (.int .u64 b') ∧ w'.cell? ⟨h, 2, none⟩ = some (.int .u64 c') ∧ w'.cell? ⟨h, 3, none⟩ = some (.string p') ∧ w'.cell? ⟨h, 4, none⟩ = some (.string m') ∧ w'.cell? ⟨h, 5, none⟩ = some (.string ByteArray.empty)) (exact keep12 HX.out HY.out (by go_grown))
    (first
      | (go_at_call 57; refine (minor_any a b c p m _).mono ?_; rintro e w' ⟨rfl, rfl⟩)
      | (go_at_call 57; refine (minor_any a' b' c' p' m' _).mono ?_; rintro e w' ⟨rfl, rfl⟩)
      | (go_at_call 64; refine (segment_zero b b' zb _).mono ?_; rintro e w' ⟨rfl, rfl⟩))
  go_wp2_with fail
  go_region_held3 (fun w' => w'.cell? ⟨g, 0, none⟩ = some (.int .u64 a) ∧ w'.cell? ⟨g, 1, none⟩ = some (.int .u64 b) ∧ w'.cell? ⟨g, 2, none⟩ = some (.int .u64 c) ∧ w'.cell? ⟨g, 3, none⟩ = some (.string p) ∧ w'.cell? ⟨g, 4, none⟩ = some (.string m) ∧ w'.cell? ⟨g, 5, none⟩ = some (.string ByteArray.empty) ∧ w'.cell? ⟨h, 0, none⟩ = some (.int .u64 a') ∧ w'.cell? ⟨h, 1, none⟩ = some (.int .u64 b') ∧ w'.cell? ⟨h, 2, none⟩ = some (.int .u64 c') ∧ w'.cell? ⟨h, 3, none⟩ = some (.string p') ∧ w'.cell? ⟨h, 4, none⟩ = some (.string m') ∧ w'.cell? ⟨h, 5, none⟩ = some (.string ByteArray.empty)) (exact keep12 HX.out HY.out (by go_grown))
    (first
      | (go_at_call 58; refine (patch_any a b c p m _).mono ?_; rintro e w' ⟨rfl, rfl⟩)
      | (go_at_call 58; refine (patch_any a' b' c' p' m' _).mono ?_; rintro e w' ⟨rfl, rfl⟩)
      | (go_at_call 64; refine (segment_zero c c' zc _).mono ?_; rintro e w' ⟨rfl, rfl⟩))
  go_wp2_with (first | (go_at_call 53; refine (prerelease_any a' b' c' p' m' _).mono ?_; rintro e w' ⟨rfl, rfl⟩) | (go_at_call 59; refine (HC.out _ (Vars.below HV.out (by go_grown))).mono ?_; rintro e w1 ⟨rfl, hb⟩))
  go_ret
  refine ⟨rfl, bt ?_ hb⟩
  go_grown
end Go.Proofs.YtkohcmgckkenpaaDoor
