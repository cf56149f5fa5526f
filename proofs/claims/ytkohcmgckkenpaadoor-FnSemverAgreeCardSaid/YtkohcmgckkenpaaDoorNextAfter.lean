/- The law FnSemverNextAfter, walked. -/
import Derived.Test.YtkohcmgckkenpaaDoorNumFirst
import Derived.Test.YtkohcmgckkenpaaDoorAfterB
import Derived.Test.YtkohcmgckkenpaaDoorNextQ
import Derived.WalkSpells
set_option linter.unusedVariables false
set_option linter.unusedSimpArgs false
namespace Go.Proofs.YtkohcmgckkenpaaDoor
open Go.RowKit

theorem keep15 {g h k : Nat} {a b c : Int} {p m : ByteArray} {a' b' c' : Int} {p' m' : ByteArray} {a2 b2 c2 : Int} {p2 : ByteArray} {w w' : World} (hs : w.cell? ⟨g, 0, none⟩ = some (.int .u64 a) ∧ w.cell? ⟨g, 1, none⟩ = some (.int .u64 b) ∧ w.cell? ⟨g, 2, none⟩ = some (.int .u64 c) ∧ w.cell? ⟨g, 3, none⟩ = some (.string p) ∧ w.cell? ⟨g, 4, none⟩ = some (.string m) ∧ w.cell? ⟨h, 0, none⟩ = some (.int .u64 a') ∧ w.cell? ⟨h, 1, none⟩ = some (.int .u64 b') ∧ w.cell? ⟨h, 2, none⟩ = some (.int .u64 c') ∧ w.cell? ⟨h, 3, none⟩ = some (.string p') ∧ w.cell? ⟨h, 4, none⟩ = some (.string m') ∧ w.cell? ⟨k, 0, none⟩ = some (.int .u64 a2) ∧ w.cell? ⟨k, 1, none⟩ = some (.int .u64 b2) ∧ w.cell? ⟨k, 2, none⟩ = some (.int .u64 c2) ∧ w.cell? ⟨k, 3, none⟩ = some (.string p2) ∧ w.cell? ⟨k, 4, none⟩ = some (.string ByteArray.empty)) (hb : Below w.heap.size w w') : w'.cell? ⟨g, 0, none⟩ = some (.int .u64 a) ∧ w'.cell? ⟨g, 1, none⟩ = some (.int .u64 b) ∧ w'.cell? ⟨g, 2, none⟩ = some (.int .u64 c) ∧ w'.cell? ⟨g, 3, none⟩ = some (.string p) ∧ w'.cell? ⟨g, 4, none⟩ = some (.string m) ∧ w'.cell? ⟨h, 0, none⟩ = some (.int .u64 a') ∧ w'.cell? ⟨h, 1, none⟩ = some (.int .u64 b') ∧ w'.cell? ⟨h, 2, none⟩ = some (.int .u64 c') ∧ w'.cell? ⟨h, 3, none⟩ = some (.string p') ∧ w'.cell? ⟨h, 4, none⟩ = some (.string m') ∧ w'.cell? ⟨k, 0, none⟩ = some (.int .u64 a2) ∧ w'.cell? ⟨k, 1, none⟩ = some (.int .u64 b2) ∧ w'.cell? ⟨k, 2, none⟩ = some (.int .u64 c2) ∧ w'.cell? ⟨k, 3, none⟩ = some (.string p2) ∧ w'.cell? ⟨k, 4, none⟩ = some (.string ByteArray.empty) := by
  obtain ⟨y0, y1, y2, y3, y4, y5, y6, y7, y8, y9, y10, y11, y12, y13, y14⟩ := hs
  exact ⟨cell_later hb y0, cell_later hb y1, cell_later hb y2, cell_later hb y3, cell_later hb y4, cell_later hb y5, cell_later hb y6, cell_later hb y7, cell_later hb y8, cell_later hb y9, cell_later hb y10, cell_later hb y11, cell_later hb y12, cell_later hb y13, cell_later hb y14⟩

theorem compare_any (a b c : Int) (p m : ByteArray) (a' b' c' : Int) (p' m' : ByteArray) (sp : p.size ≤ 2147483647) (sp' : p'.size ≤ 2147483647) (g h : Nat) (w : World) (hx : V6 w g a b c p m) (hy : V6 w h a' b' c' p' m') (hv : Vars w) :
    Calls Tryd.prog 60 #[.pointer (some ⟨g, 0, none⟩), .pointer (some ⟨h, 0, none⟩)] w fun e w' => e = .returned (.int .i64 (cmpV (num3 a b c a' b' c') p.toList p'.toList)) ∧ Below w.heap.size w w' := by
  have e3 := first3 a b c a' b' c'
  unfold cmpV
  by_cases hn : num3 a b c a' b' c' = 0
  · rw [if_pos hn]
    have h1 : segC a a' = 0 ∧ segC b b' = 0 ∧ segC c c' = 0 := by
      unfold num3 at hn
      by_cases h1 : segC a a' = 0
      · rw [if_pos h1] at hn
        by_cases h2 : segC b b' = 0
        · rw [if_pos h2] at hn; exact ⟨h1, h2, hn⟩
        · rw [if_neg h2] at hn; exact absurd hn h2
      · rw [if_neg h1] at hn; exact absurd hn h1
    obtain ⟨z1, z2, z3⟩ := h1
    unfold preCmp
    by_cases hp : p.toList = []
    · have ep : p.toList.isEmpty = true := by rw [hp]; rfl
      rw [if_pos hp]
      by_cases hq : p'.toList = []
      · rw [if_pos hq]
        exact compare_none g h a b c p m a' b' c' p' m' w hx hy z1 z2 z3 ep (by rw [hq]; rfl)
      · rw [if_neg hq]
        exact compare_release g h a b c p m a' b' c' p' m' w hx hy z1 z2 z3 ep (by simpa using hq)
    · have ep : p.toList.isEmpty = false := by simpa using hp
      rw [if_neg hp]
      by_cases hq : p'.toList = []
      · rw [if_pos hq]
        exact compare_early g h a b c p m a' b' c' p' m' w hx hy z1 z2 z3 ep (by rw [hq]; rfl)
      · rw [if_neg hq]
        exact compare_pres g h a b c p m a' b' c' p' m' w hx hy z1 z2 z3 ep (by simpa using hq) hv _ (fun W hW => comparePre_any p p' W sp sp' hW)
  · rw [if_neg hn]
    have := compare_nums g h a b c p m a' b' c' p' m' w hx hy (by rw [e3]; exact hn)
    rw [e3] at this
    exact this

end Go.Proofs.YtkohcmgckkenpaaDoor
