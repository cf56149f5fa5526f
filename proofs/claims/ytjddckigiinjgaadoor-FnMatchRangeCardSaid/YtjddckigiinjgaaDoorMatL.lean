/- What matchName says of the two patterns. -/
import Derived.Test.YtjddckigiinjgaaDoorMatK
set_option linter.unusedVariables false
set_option linter.unusedSimpArgs false
namespace Go.Proofs.YtjddckigiinjgaaDoor
open Go.RowKit

theorem bt_at (l : List UInt8) (i : Nat) (c : UInt8) (hl : l[i]? = some c) (h : i < (bt l).size) : (bt l)[i] = c := by
  have := at_list (bt l) i h
  rw [bt_list, hl] at this
  exact (Option.some.inj this).symm
theorem at_nat (l : List UInt8) (i n : Nat) (c : UInt8) (hl : l[i]? = some c) (hc : c.toNat = n) (h : i < (bt l).size) : (bt l)[i].toNat = n := by rw [bt_at l i c hl h]; exact hc
def inR (lo hi r : Nat) : Bool := decide ((lo : Int) ≤ r) && decide ((r : Int) ≤ hi)
theorem in_any (lo hi r : Nat) (s : ByteArray) (X : World) (hlo : lo < 128) (hhi : hi < 128) (hr : r < 128) (y0 : 0 < s.size) (y1 : s[0].toNat = r) :
    Calls Tryd.prog 6 #[.string (bt (91 :: tl lo hi)), .string s] X fun e w' => e = .returned (.tuple #[.bool (inR lo hi r && decide (s.size = 1)), .bool true]) ∧ Below X.heap.size X w' := by
  have hz : (bt (91 :: tl lo hi)).size = 7 := by rw [bt_size]; rfl
  have HS := fun X => scan7 (bt (91 :: tl lo hi)) X hz (by omega) (at_nat _ 0 91 91 rfl rfl _) (by omega) (at_nat _ 1 92 92 rfl rfl _) (by omega) (at_nat _ 3 45 45 rfl rfl _) (by omega) (at_nat _ 4 92 92 rfl rfl _) (by omega) (at_nat _ 6 93 93 rfl rfl _)
  have HC := fun X => chunk_plain (bt (91 :: tl lo hi)) _ _ _ _ _ _ _ s (s.extract 1 s.size) lo hi r (inR lo hi r) X (klass lo hi hlo hhi) (bt_pos _ _) (at_nat _ 0 91 91 rfl rfl _) (bt_tail _ _) hlo hhi hr y0 y1 (name_tail s y0) rfl
  have HM := fun X => match_one (bt (91 :: tl lo hi)) s _ (inR lo hi r) X (bt_pos _ _) (fun _ => trivial) (fun Y => (HS Y).mono fun e w' h => ⟨h.1, h.2⟩) (fun Y => (HC Y).mono fun e w' h => ⟨h.1, h.2⟩)
  refine (matchName_any (bt (91 :: tl lo hi)) s _ X (not_empty s y0) HM).mono ?_
  rintro e w' ⟨rfl, hb⟩
  refine ⟨?_, hb⟩
  have hx : (s.extract 1 s.size).size = s.size - 1 := by simp
  cases hm : inR lo hi r
  · rfl
  · have e2 : decide ((if true = true then s.extract 1 s.size else ⟨#[]⟩).size = 0) = decide (s.size = 1) := by
      rw [if_pos rfl, hx]
      exact decide_eq_decide.2 (by omega)
    rw [e2]
theorem out_any (lo hi r : Nat) (s : ByteArray) (X : World) (hlo : lo < 128) (hhi : hi < 128) (hr : r < 128) (y0 : 0 < s.size) (y1 : s[0].toNat = r) :
    Calls Tryd.prog 6 #[.string (bt (91 :: 94 :: tl lo hi)), .string s] X fun e w' => e = .returned (.tuple #[.bool (!inR lo hi r && decide (s.size = 1)), .bool true]) ∧ Below X.heap.size X w' := by
  have hz : (bt (91 :: 94 :: tl lo hi)).size = 8 := by rw [bt_size]; rfl
  have HS := fun X => scan8 (bt (91 :: 94 :: tl lo hi)) X hz (by omega) (at_nat _ 0 91 91 rfl rfl _) (by omega) (at_nat _ 1 94 94 rfl rfl _) (by omega) (at_nat _ 2 92 92 rfl rfl _) (by omega) (at_nat _ 4 45 45 rfl rfl _) (by omega) (at_nat _ 5 92 92 rfl rfl _) (by omega) (at_nat _ 7 93 93 rfl rfl _)
  have HC := fun X => chunk_not (bt (91 :: 94 :: tl lo hi)) (bt (94 :: tl lo hi)) _ _ _ _ _ _ _ s (s.extract 1 s.size) lo hi r (inR lo hi r) X (klass lo hi hlo hhi) (bt_pos _ _) (at_nat _ 0 91 91 rfl rfl _) (bt_tail _ _) (bt_pos _ _) (at_nat _ 0 94 94 rfl rfl _) (bt_tail _ _) hlo hhi hr y0 y1 (name_tail s y0) rfl
  have HM := fun X => match_one (bt (91 :: 94 :: tl lo hi)) s _ (!inR lo hi r) X (bt_pos _ _) (fun _ => trivial) (fun Y => (HS Y).mono fun e w' h => ⟨h.1, h.2⟩) (fun Y => (HC Y).mono fun e w' h => ⟨h.1, h.2⟩)
  refine (matchName_any (bt (91 :: 94 :: tl lo hi)) s _ X (not_empty s y0) HM).mono ?_
  rintro e w' ⟨rfl, hb⟩
  refine ⟨?_, hb⟩
  have hx : (s.extract 1 s.size).size = s.size - 1 := by simp
  cases hm : inR lo hi r
  · have e2 : decide ((if false = true then (⟨#[]⟩ : ByteArray) else s.extract 1 s.size).size = 0) = decide (s.size = 1) := by
      rw [if_neg (by decide), hx]
      exact decide_eq_decide.2 (by omega)
    rw [e2]
  · rfl
end Go.Proofs.YtjddckigiinjgaaDoor
