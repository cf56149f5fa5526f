/- The law FnSemverValidPre: a text is taken as a prerelease just if clause 9 lets it be one. Joined. -/
import Derived.Test.YtknjengnipidoaaDoorValid
set_option linter.unusedVariables false
set_option linter.unusedSimpArgs false
namespace Go.Proofs.YtknjengnipidoaaDoor
open Go.RowKit

theorem short_one (s : ByteArray) (hz : s.size ≤ 2147483647) (W : World) (c : Nat) : Calls Tryd.prog 7 #[.slice (some ⟨W.heap.size, 0, none⟩) 1 c] (W.alloc (.cells #[.string s] 9)) fun e w' => e = .returned (.bool (short s)) ∧ W.alloc (.cells #[.string s] 9) = w' := by
  have := svShort_any [s] W.heap.size c (W.alloc (.cells #[.string s] 9)) (by simp) (strs_one W _ s) (by simp; omega)
  simpa using this
theorem short_two (a b : ByteArray) (ha : a.size ≤ 2147483647) (hb : b.size ≤ 2147483647) (W : World) (c : Nat) : Calls Tryd.prog 7 #[.slice (some ⟨W.heap.size, 0, none⟩) 2 c] (W.alloc (.cells #[.string a, .string b] 9)) fun e w' => e = .returned (.bool (short a && short b)) ∧ W.alloc (.cells #[.string a, .string b] 9) = w' := by
  have := svShort_any [a, b] W.heap.size c (W.alloc (.cells #[.string a, .string b] 9)) (by simp) (strs_two W _ a b) (by simp; omega)
  simpa using this

theorem pre_law (s : ByteArray) (w : World) (hs : s.size ≤ 2147483647) (h6 : short s = true) (he : s.toList.isEmpty = false) (hv : Vars w) (b : Bool) (hb : (cut 46 s.toList).all preId = b) : Calls Tryd.prog 3 #[.string s] w fun e w' => e = .returned (.bool true) ∧ Below w.heap.size w w' := by
  have z0 : ¬ (2147483647 : Int) < (s.size : Int) := by omega
  have hsh := short_one s hs
  rw [h6] at hsh
  have HS := hid hs
  have hb1 : Below w.heap.size w (w.alloc (.cells #[.string s] 9)) := (Below.refl _ _).alloc (Nat.le_refl _) _
  have C1 := hid (fun w (hv : Vars w) => ivpre_any s w hs hv)
  have C2 := hid (fun w => validPre_any s w hs)
  rw [hb] at C1 C2
  have HV := hid (hv.below hb1)
  have HB := hid hb1
  clear hb h6 hs hv hb1
  go_enter Tryd.func3, Tryd.ntmps3
  go_wp2_with (first | (go_at_call 7; refine (hsh _ _).mono ?_; rintro e w' ⟨rfl, rfl⟩) | (go_at_call 8; refine (C1.out _ HV.out).mono ?_; rintro e w2 ⟨rfl, hb2⟩; replace hb2 := hid hb2) | (go_at_call 9; refine (C2.out _).mono ?_; rintro e w3 ⟨rfl, hb3⟩; replace hb3 := hid hb3))
  go_ret
  exact ⟨ret_b (by simp), (HB.out.trans (hb2.out.mono HB.out.size)).trans (hb3.out.mono (Nat.le_trans HB.out.size hb2.out.size))⟩

theorem pre_long (s : ByteArray) (w : World) (hs : s.size ≤ 2147483647) (h6 : short s = false) (he : s.toList.isEmpty = false) : Calls Tryd.prog 3 #[.string s] w fun e w' => e = .returned (.bool true) ∧ Below w.heap.size w w' := by
  have z0 : ¬ (2147483647 : Int) < (s.size : Int) := by omega
  have hsh := short_one s hs
  rw [h6] at hsh
  clear h6 hs
  go_enter Tryd.func3, Tryd.ntmps3
  go_wp2_with (go_at_call 7; refine (hsh _ _).mono ?_; rintro e w' ⟨rfl, rfl⟩)
  go_ret
  exact ⟨rfl, by go_grown⟩

theorem pre_none (s : ByteArray) (w : World) (hs : ¬ (2147483647 : Int) < (s.size : Int)) (he : s.toList.isEmpty = true) : Calls Tryd.prog 3 #[.string s] w fun e w' => e = .returned (.bool true) ∧ Below w.heap.size w w' := by
  go_enter Tryd.func3, Tryd.ntmps3
  go_wp2_with fail
  go_ret
  exact ⟨rfl, by go_grown⟩

theorem pre_big (s : ByteArray) (w : World) (hs : (2147483647 : Int) < (s.size : Int)) : Calls Tryd.prog 3 #[.string s] w fun e w' => e = .returned (.bool true) ∧ Below w.heap.size w w' := by
  go_enter Tryd.func3, Tryd.ntmps3
  go_wp2_with fail
  go_ret
  exact ⟨rfl, by go_grown⟩

theorem fnSemverValidPre_walk (s : ByteArray) (w : World) (_hm : s.size ≤ maxLen) (hv : Vars w) : Calls Tryd.prog 3 #[.string s] w fun e w' => e = .returned (.bool true) ∧ Below w.heap.size w w' := by
  by_cases hs : s.size ≤ 2147483647
  · cases he : s.toList.isEmpty
    · cases h6 : short s
      · exact pre_long s w hs h6 he
      · exact pre_law s w hs h6 he hv _ rfl
    · exact pre_none s w (by omega) he
  · exact pre_big s w (by omega)
end Go.Proofs.YtknjengnipidoaaDoor
