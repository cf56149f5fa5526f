/- The doors to the comparison of versions, walked. -/
import Derived.Test.YtkohcmgckkenpaaDoorVerB
import Derived.Test.YtkohcmgckkenpaaDoorVerC
import Derived.Test.YtkohcmgckkenpaaDoorSvGood
set_option linter.unusedVariables false
set_option linter.unusedSimpArgs false
namespace Go.Proofs.YtkohcmgckkenpaaDoor
open Go.RowKit

theorem keep10 {a b c : Int} {p m : ByteArray} {a' b' c' : Int} {p' m' : ByteArray} {t : TypeId} {w w' : World} (hb : Below ((w.alloc (.cells (scells a b c p m) t)).alloc (.cells (scells a' b' c' p' m') t)).heap.size ((w.alloc (.cells (scells a b c p m) t)).alloc (.cells (scells a' b' c' p' m') t)) w') : w'.cell? ⟨w.heap.size, 0, none⟩ = some (.int .u64 a) ∧ w'.cell? ⟨w.heap.size, 1, none⟩ = some (.int .u64 b) ∧ w'.cell? ⟨w.heap.size, 2, none⟩ = some (.int .u64 c) ∧ w'.cell? ⟨w.heap.size, 3, none⟩ = some (.string p) ∧ w'.cell? ⟨w.heap.size, 4, none⟩ = some (.string m) ∧ w'.cell? ⟨w.heap.size + 1, 0, none⟩ = some (.int .u64 a') ∧ w'.cell? ⟨w.heap.size + 1, 1, none⟩ = some (.int .u64 b') ∧ w'.cell? ⟨w.heap.size + 1, 2, none⟩ = some (.int .u64 c') ∧ w'.cell? ⟨w.heap.size + 1, 3, none⟩ = some (.string p') ∧ w'.cell? ⟨w.heap.size + 1, 4, none⟩ = some (.string m') := by
  have h1 : Blk ((w.alloc (.cells (scells a b c p m) t)).alloc (.cells (scells a' b' c' p' m') t)) w.heap.size t (scells a b c p m) := (Blk.new w t (scells a b c p m)).alloc _
  have h2 : Blk ((w.alloc (.cells (scells a b c p m) t)).alloc (.cells (scells a' b' c' p' m') t)) (w.heap.size + 1) t (scells a' b' c' p' m') := by
    have := Blk.new (w.alloc (.cells (scells a b c p m) t)) t (scells a' b' c' p' m')
    rwa [World.size_alloc] at this
  have k1 := h1.below hb
  have k2 := h2.below hb
  exact ⟨k1.cell 0, k1.cell 1, k1.cell 2, k1.cell 3, k1.cell 4, k2.cell 0, k2.cell 1, k2.cell 2, k2.cell 3, k2.cell 4⟩

/-- The world behind the making of the two. -/
abbrev vw (a b c : Int) (p m : ByteArray) (a' b' c' : Int) (p' m' : ByteArray) (w : World) : World :=
  (((((w.alloc (.cells (scells a b c p m) 25)).alloc (.cells (scells a' b' c' p' m') 25)).alloc (.cells (scells a b c p m) 25)).alloc (.cells (vcells a b c p m) 67)).alloc (.cells (scells a' b' c' p' m') 25)).alloc (.cells (vcells a' b' c' p' m') 67)
theorem v6_one (a b c : Int) (p m : ByteArray) (a' b' c' : Int) (p' m' : ByteArray) (w : World) : V6 (vw a b c p m a' b' c' p' m' w) (w.heap.size + 1 + 1 + 1) a b c p m := by
  have h := V6.new (((w.alloc (.cells (scells a b c p m) 25)).alloc (.cells (scells a' b' c' p' m') 25)).alloc (.cells (scells a b c p m) 25)) 67 a b c p m
  simp only [World.size_alloc] at h
  exact h.below (by go_grown)
theorem v6_two (a b c : Int) (p m : ByteArray) (a' b' c' : Int) (p' m' : ByteArray) (w : World) : V6 (vw a b c p m a' b' c' p' m' w) (w.heap.size + 1 + 1 + 1 + 1 + 1) a' b' c' p' m' := by
  have h := V6.new (((((w.alloc (.cells (scells a b c p m) 25)).alloc (.cells (scells a' b' c' p' m') 25)).alloc (.cells (scells a b c p m) 25)).alloc (.cells (vcells a b c p m) 67)).alloc (.cells (scells a' b' c' p' m') 25)) 67 a' b' c' p' m'
  simp only [World.size_alloc] at h
  exact h
theorem vw_below (a b c : Int) (p m : ByteArray) (a' b' c' : Int) (p' m' : ByteArray) (w : World) : Below w.heap.size w (vw a b c p m a' b' c' p' m' w) := by
  unfold vw
  go_grown

theorem vLess_inner (n : Int) (g h : Nat) (w : World)
    (hc : Calls Tryd.prog 60 #[.pointer (some ⟨g, 0, none⟩), .pointer (some ⟨h, 0, none⟩)] w fun e w' => e = .returned (.int .i64 n) ∧ Below w.heap.size w w') :
    Calls Tryd.prog 61 #[.pointer (some ⟨g, 0, none⟩), .pointer (some ⟨h, 0, none⟩)] w fun e w' => e = .returned (.bool (decide (n < 0))) ∧ Below w.heap.size w w' := by
  have HC := hid hc
  clear hc
  go_enter Tryd.func61, Tryd.ntmps61
  go_wp2_with (go_at_call 60; refine HC.out.mono ?_; rintro e w' ⟨rfl, hb⟩)
  go_ret
  exact ⟨ret_b (by simp), hb⟩

end Go.Proofs.YtkohcmgckkenpaaDoor
