/- The law FnSemverPartOrder, walked: the comparison of identifiers is a total order. -/
import Derived.Test.YtkohcmgckkenpaaDoorSemA
import Derived.Test.YtkohcmgckkenpaaDoorSemD
set_option linter.unusedVariables false
set_option linter.unusedSimpArgs false
namespace Go.Proofs.YtkohcmgckkenpaaDoor
open Go.RowKit

def short (x : ByteArray) : Bool := decide (x.size ≤ 65536)

theorem svShort_any (xs : List ByteArray) (g c : Nat) (w : World) (hl : xs.length ≤ 1000000) (hst : StrsAt w g xs) (hz : ∀ x ∈ xs, x.size ≤ 9223372036854775807) :
    Calls Tryd.prog 19 #[.slice (some ⟨g, 0, none⟩) xs.length c] w fun e w' => e = .returned (.bool (xs.all short)) ∧ w = w' := by
  have HS := hid hst
  have HZ := hid hz
  clear hst hz
  go_enter Tryd.func19, Tryd.ntmps19
  go_wp2_with fail
  go_loop [4, 7] (fun _ i => ∃ k : Nat, k ≤ xs.length ∧ i = .int .i64 k ∧ (xs.take k).all short = true) (fun _ i => xs.length - (intOf i).toNat)
  case atStart => exact ⟨0, Nat.zero_le _, rfl, by simp⟩
  case round =>
    obtain ⟨k, hk, rfl, ha⟩ := hrel
    have HA := hid ha
    clear ha
    by_cases hlt : k < xs.length
    · have hcell := HS.out k xs[k] (List.getElem?_eq_getElem hlt)
      have hzk := HZ.out xs[k] (List.getElem_mem hlt)
      by_cases h6 : xs[k].size ≤ 65536
      · go_wp2_with fail
        go_round
        case rel => exact ⟨k + 1, by omega, by go_num, by rw [List.take_succ_eq_append_getElem hlt, List.all_append, HA.out]; simp [short, h6]⟩
        case measure => simp [intOf]; omega
      · go_wp2_with fail
        go_ret
        refine ⟨ret_b ?_, rfl⟩
        show false = _
        symm
        rw [List.all_eq_false]
        exact ⟨xs[k], List.getElem_mem hlt, by simp [short, h6]⟩
    · go_wp2_with fail
      go_ret
      refine ⟨ret_b ?_, rfl⟩
      show true = _
      rw [← HA.out, List.take_of_length_le (by omega)]

/-- A good identifier. -/
def identB (s : ByteArray) : Bool := short s && (validId s.toList && ((cut 46 s.toList).all preId && (cut 46 s.toList).all smallId))

theorem strs_one (W : World) (t : TypeId) (s : ByteArray) : StrsAt (W.alloc (.cells #[.string s] t)) W.heap.size [s] := fun i x hx => by
  have hi : i = 0 := by
    rcases i with _ | i
    · rfl
    · simp at hx
  subst hi
  simp at hx
  subst hx
  exact (Blk.new W t #[.string s]).cell 0

theorem no_dot (l : List UInt8) (h : validId l = true) : (46 : UInt8) ∉ l := by
  simp only [validId, Bool.and_eq_true, List.all_eq_true] at h
  intro hm
  have := h.2 46 hm
  simp [isId] at this

theorem okid_ident (s : ByteArray) (h : identB s = true) : Okid s.toList ∧ s.size ≤ 2147483647 := by
  simp only [identB, Bool.and_eq_true] at h
  obtain ⟨h1, h2, h3, h4⟩ := h
  rw [cut_none 46 _ (no_dot _ h2)] at h3 h4
  simp at h3 h4
  exact ⟨okid_of _ h3 h4, Nat.le_trans (by simpa [short] using h1 : s.size ≤ 65536) (by omega)⟩

end Go.Proofs.YtkohcmgckkenpaaDoor
