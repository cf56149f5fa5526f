/- The law FnSemverPartOrder, walked: the comparison of identifiers is a total order. -/
import Derived.Test.YtmlbjcdildaldaaDoorSemA
import Derived.Test.YtmlbjcdildaldaaDoorSemD
set_option linter.unusedVariables false
set_option linter.unusedSimpArgs false
namespace Go.Proofs.YtmlbjcdildaldaaDoor
open Go.RowKit

def short (x : ByteArray) : Bool := decide (x.size ≤ 65536)

theorem svShort_any (xs : List ByteArray) (g c : Nat) (w : World) (hl : xs.length ≤ 1000000) (hst : StrsAt w g xs) (hz : ∀ x ∈ xs, x.size ≤ 9223372036854775807) :
    Calls Tryd.prog 52 #[.slice (some ⟨g, 0, none⟩) xs.length c] w fun e w' => e = .returned (.bool (xs.all short)) ∧ w = w' := by
  have HS := hid hst
  have HZ := hid hz
  clear hst hz
  go_enter Tryd.func52, Tryd.ntmps52
  go_wp2_with fail
  go_loop [4, 7] (fun _ i => ∃ k : Nat, k ≤ xs.length ∧ i = .int .i64 k ∧ (xs.take k).all short = true) (fun _ i => xs.length - (intOf i).toNat)
  case atStart => exact ⟨0, Nat.zero_le _, rfl, by simp⟩
  case round =>
    obtain ⟨k, hk, rfl, ha⟩ := hrel
    have HA := hid ha
    clear ha
    by_cases hlt : k < xs.length
    · have hcell := HS.out k xs[k] (List.getElem?_eq_getElem hlt)
      have hzk := HZ.out xs[k] (List.getElem_mem hlt)
      by_cases h6 : xs[k].size ≤ 65536
      · go_wp2_with fail
        go_round
        case rel => exact ⟨k + 1, by omega, by go_num, by rw [List.take_succ_eq_append_getElem hlt, List.all_append, HA.out]; simp [short, h6]⟩
        case measure => simp [intOf]; omega
      · go_wp2_with fail
        go_ret
        refine ⟨ret_b ?_, rfl⟩
        show false = _
        symm
        rw [List.all_eq_false]
        exact ⟨xs[k], List.getElem_mem hlt, by simp [short, h6]⟩
    · go_wp2_with fail
      go_ret
      refine ⟨ret_b ?_, rfl⟩
      show true = _
      rw [← HA.out, List.take_of_length_le (by omega)]

/-- A good identifier. -/
def identB (s : ByteArray) : Bool := short s && (validId s.toList && ((cut 46 s.toList).all preId && (cut 46 s.toList).all smallId))

theorem strs_one (W : World) (t : TypeId) (s : ByteArray) : StrsAt (W.alloc (.cells #[.string s] t)) W.heap.size [s] := fun i x hx => by
  have hi : i = 0 := by
    rcases i with _ | i
    · rfl
    · simp at hx
  subst hi
  simp at hx
  subst hx
  exact (Blk.new W t #[.string s]).cell 0

theorem svIdent_any (s : ByteArray) (w : World) (hz : s.size ≤ 2147483647) :
    Calls Tryd.prog 15 #[.string s] w fun e w' => e = .returned (.bool (identB s)) ∧ Below w.heap.size w w' := by
  have hsh : ∀ (W : World) (c : Nat), Calls Tryd.prog 52 #[.slice (some ⟨W.heap.size, 0, none⟩) 1 c] (W.alloc (.cells #[.string s] 9)) fun e w' => e = .returned (.bool (short s)) ∧ W.alloc (.cells #[.string s] 9) = w' := fun W c => by
    have := svShort_any [s] W.heap.size c (W.alloc (.cells #[.string s] 9)) (by simp) (strs_one W _ s) (by simp; omega)
    simpa using this
  have hb1 : Below w.heap.size w (w.alloc (.cells #[.string s] 9)) := (Below.refl _ _).alloc (Nat.le_refl _) _
  unfold identB
  cases h1 : short s
  · have H1 := hid h1
    go_enter Tryd.func15, Tryd.ntmps15
    go_wp2_with (go_at_call 52; refine (hsh _ _).mono ?_; rintro e w' ⟨rfl, rfl⟩)
    go_ret
    exact ⟨rfl, hb1⟩
  · have H1 := hid h1
    have h6 : s.size ≤ 2147483647 := by
      have h65 : s.size ≤ 65536 := by simpa [short] using h1
      omega
    cases h2 : validId s.toList
    · have H2 := hid h2
      go_enter Tryd.func15, Tryd.ntmps15
      go_wp2_with (first | (go_at_call 52; refine (hsh _ _).mono ?_; rintro e w' ⟨rfl, rfl⟩) | (go_at_call 53; refine (validIdent_any s _ hz).mono ?_; rintro e w' ⟨rfl, rfl⟩))
      go_ret
      exact ⟨rfl, hb1⟩
    · have H2 := hid h2
      cases h3 : (cut 46 s.toList).all preId
      · have H3 := hid h3
        go_enter Tryd.func15, Tryd.ntmps15
        go_wp2_with (first | (go_at_call 52; refine (hsh _ _).mono ?_; rintro e w' ⟨rfl, rfl⟩) | (go_at_call 53; refine (validIdent_any s _ hz).mono ?_; rintro e w' ⟨rfl, rfl⟩) | (go_at_call 54; refine (validPre_any s _ h6).mono ?_; rintro e w2 ⟨rfl, hb2⟩))
        go_ret
        exact ⟨rfl, hb1.trans (hb2.mono hb1.size)⟩
      · have H3 := hid h3
        go_enter Tryd.func15, Tryd.ntmps15
        go_wp2_with (first | (go_at_call 52; refine (hsh _ _).mono ?_; rintro e w' ⟨rfl, rfl⟩) | (go_at_call 53; refine (validIdent_any s _ hz).mono ?_; rintro e w' ⟨rfl, rfl⟩) | (go_at_call 54; refine (validPre_any s _ h6).mono ?_; rintro e w2 ⟨rfl, hb2⟩) | (go_at_call 55; refine (smallPre_any s _ h6).mono ?_; rintro e w3 ⟨rfl, hb3⟩))
        go_ret
        exact ⟨rfl, (hb1.trans (hb2.mono hb1.size)).trans (hb3.mono (Nat.le_trans hb1.size hb2.size))⟩

theorem no_dot (l : List UInt8) (h : validId l = true) : (46 : UInt8) ∉ l := by
  simp only [validId, Bool.and_eq_true, List.all_eq_true] at h
  intro hm
  have := h.2 46 hm
  simp [isId] at this

theorem okid_ident (s : ByteArray) (h : identB s = true) : Okid s.toList ∧ s.size ≤ 2147483647 := by
  simp only [identB, Bool.and_eq_true] at h
  obtain ⟨h1, h2, h3, h4⟩ := h
  rw [cut_none 46 _ (no_dot _ h2)] at h3 h4
  simp at h3 h4
  exact ⟨okid_of _ h3 h4, Nat.le_trans (by simpa [short] using h1 : s.size ≤ 65536) (by omega)⟩

end Go.Proofs.YtmlbjcdildaldaaDoor
