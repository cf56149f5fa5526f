/- The laws' and the specification's test of a version's parts, walked. -/
import Derived.Test.YtkohcmgckkenpaaDoorVerA
set_option linter.unusedVariables false
set_option linter.unusedSimpArgs false
namespace Go.Proofs.YtkohcmgckkenpaaDoor
open Go.RowKit

def preOk (p : ByteArray) : Bool := p.toList.isEmpty || ((cut 46 p.toList).all preId && (cut 46 p.toList).all smallId)
def metaOk (m : ByteArray) : Bool := m.toList.isEmpty || (cut 46 m.toList).all validId
def goodB (p m : ByteArray) : Bool := preOk p && metaOk m

theorem bt0 {w w1 w2 : World} (h : Below w.heap.size w w1) (k : Below w1.heap.size w1 w2) : Below w.heap.size w w2 := h.trans (k.mono h.size)

theorem good_any (a b c : Int) (p m : ByteArray) (w : World) (hp : p.size ≤ 2147483647) (hm : m.size ≤ 2147483647) :
    Calls Tryd.prog 20 #[.agg (scells a b c p m)] w fun e w' => e = .returned (.bool (goodB p m)) ∧ Below w.heap.size w w' := by
  have b0 : Below w.heap.size w (w.alloc (.cells (scells a b c p m) 25)) := (Below.refl _ _).alloc (Nat.le_refl _) _
  have B0 : Blk (w.alloc (.cells (scells a b c p m) 25)) w.heap.size 25 (scells a b c p m) := Blk.new w _ _
  have HB0 := hid B0
  clear B0
  unfold goodB preOk metaOk
  cases h0 : p.toList.isEmpty
  · cases h1 : (cut 46 p.toList).all preId
    · go_enter Tryd.func20, Tryd.ntmps20
      go_wp2_with (first | (go_at_call 28; refine (validPre_any p _ hp).mono ?_; rintro e w2 ⟨rfl, hb2⟩; have B2 := hid (HB0.out.below hb2); have q23 : w2.cell? ⟨w.heap.size, 3, none⟩ = some (.string p) := B2.out.cell 3; have q24 : w2.cell? ⟨w.heap.size, 4, none⟩ = some (.string m) := B2.out.cell 4))
      go_ret
      exact ⟨rfl, bt0 b0 hb2⟩
    · cases h2 : (cut 46 p.toList).all smallId
      · go_enter Tryd.func20, Tryd.ntmps20
        go_wp2_with (first | (go_at_call 28; refine (validPre_any p _ hp).mono ?_; rintro e w2 ⟨rfl, hb2⟩; have B2 := hid (HB0.out.below hb2); have q23 : w2.cell? ⟨w.heap.size, 3, none⟩ = some (.string p) := B2.out.cell 3; have q24 : w2.cell? ⟨w.heap.size, 4, none⟩ = some (.string m) := B2.out.cell 4) | (go_at_call 29; refine (smallPre_any p _ hp).mono ?_; rintro e w3 ⟨rfl, hb3⟩; have B3 := hid (B2.out.below hb3); have q34 : w3.cell? ⟨w.heap.size, 4, none⟩ = some (.string m) := B3.out.cell 4))
        go_ret
        exact ⟨rfl, bt0 (bt0 b0 hb2) hb3⟩
      · cases h3 : m.toList.isEmpty
        · go_enter Tryd.func20, Tryd.ntmps20
          go_wp2_with (first | (go_at_call 28; refine (validPre_any p _ hp).mono ?_; rintro e w2 ⟨rfl, hb2⟩; have B2 := hid (HB0.out.below hb2); have q23 : w2.cell? ⟨w.heap.size, 3, none⟩ = some (.string p) := B2.out.cell 3; have q24 : w2.cell? ⟨w.heap.size, 4, none⟩ = some (.string m) := B2.out.cell 4) | (go_at_call 29; refine (smallPre_any p _ hp).mono ?_; rintro e w3 ⟨rfl, hb3⟩; have B3 := hid (B2.out.below hb3); have q34 : w3.cell? ⟨w.heap.size, 4, none⟩ = some (.string m) := B3.out.cell 4) | (go_at_call 30; refine (validMeta_any m _ hm).mono ?_; rintro e w4 ⟨rfl, hb4⟩))
          go_ret
          exact ⟨by simp, bt0 (bt0 (bt0 b0 hb2) hb3) hb4⟩
        · go_enter Tryd.func20, Tryd.ntmps20
          go_wp2_with (first | (go_at_call 28; refine (validPre_any p _ hp).mono ?_; rintro e w2 ⟨rfl, hb2⟩; have B2 := hid (HB0.out.below hb2); have q23 : w2.cell? ⟨w.heap.size, 3, none⟩ = some (.string p) := B2.out.cell 3; have q24 : w2.cell? ⟨w.heap.size, 4, none⟩ = some (.string m) := B2.out.cell 4) | (go_at_call 29; refine (smallPre_any p _ hp).mono ?_; rintro e w3 ⟨rfl, hb3⟩; have B3 := hid (B2.out.below hb3); have q34 : w3.cell? ⟨w.heap.size, 4, none⟩ = some (.string m) := B3.out.cell 4))
          go_ret
          exact ⟨rfl, bt0 (bt0 b0 hb2) hb3⟩
  · cases h3 : m.toList.isEmpty
    · go_enter Tryd.func20, Tryd.ntmps20
      go_wp2_with (first | (go_at_call 30; refine (validMeta_any m _ hm).mono ?_; rintro e w4 ⟨rfl, hb4⟩))
      go_ret
      exact ⟨by simp, bt0 b0 hb4⟩
    · go_enter Tryd.func20, Tryd.ntmps20
      go_wp2_with fail
      go_ret
      exact ⟨rfl, b0⟩
end Go.Proofs.YtkohcmgckkenpaaDoor
