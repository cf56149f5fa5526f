/- The bytes of FnMatchRange's two patterns. Plain. -/
import Derived.Test.YtjddckigiinjgaaDoorMatI
import Derived.Laws.Strings2
import Derived.Laws.Strings3
set_option linter.unusedVariables false
set_option linter.unusedSimpArgs false
namespace Go.Proofs.YtjddckigiinjgaaDoor
open Go.RowKit

def bt (l : List UInt8) : ByteArray := ⟨l.toArray⟩
theorem bt_list (l : List UInt8) : (bt l).toList = l := by
  unfold bt
  rw [ByteArray.toList_eq]
theorem bt_size (l : List UInt8) : (bt l).size = l.length := by
  rw [← size_list, bt_list]
theorem bt_head (a : UInt8) (r : List UInt8) (h : 0 < (bt (a :: r)).size) : (bt (a :: r))[0] = a := by
  have := at_list (bt (a :: r)) 0 h
  rw [bt_list] at this
  simpa using this.symm
theorem bt_pos (a : UInt8) (r : List UInt8) : 0 < (bt (a :: r)).size := by
  rw [bt_size]
  exact Nat.zero_lt_succ _
theorem bt_tail (a : UInt8) (r : List UInt8) : Tail1 (bt (a :: r)) (bt r) := fun X => by
  have hp := bt_pos a r
  rw [run_slice_string_from_if _ _ _ _ _ Tryd.underlying9, if_pos ⟨by omega, by omega⟩]
  have e : (bt (a :: r)).extract (1 : Int).toNat (bt (a :: r)).size = bt r := by
    apply bytes_inj
    rw [ext_list, bt_list, bt_list, bt_size]
    simp
  rw [e]
theorem of_nat8 (c : Nat) (h : c < 128) : (UInt8.ofNat c).toNat = c := by simp; omega
def tl (lo hi : Nat) : List UInt8 := [92, UInt8.ofNat lo, 45, 92, UInt8.ofNat hi, 93]
theorem klass (lo hi : Nat) (hlo : lo < 128) (hhi : hi < 128) : Klass (bt (tl lo hi)) (bt [UInt8.ofNat lo, 45, 92, UInt8.ofNat hi, 93]) (bt [45, 92, UInt8.ofNat hi, 93]) (bt [92, UInt8.ofNat hi, 93]) (bt [UInt8.ofNat hi, 93]) (bt [93]) (bt []) lo hi where
  z1 := bt_pos _ _
  e1 := congrArg UInt8.toNat (bt_head 92 [UInt8.ofNat lo, 45, 92, UInt8.ofNat hi, 93] (bt_pos _ _))
  s1 := bt_tail _ _
  z2 := bt_pos _ _
  e2 := by rw [bt_head]; exact of_nat8 lo hlo
  s2 := bt_tail _ _
  z3 := bt_pos _ _
  e3 := by rw [bt_head]; rfl
  s3 := bt_tail _ _
  z4 := bt_pos _ _
  e4 := by rw [bt_head]; rfl
  s4 := bt_tail _ _
  z5 := bt_pos _ _
  e5 := by rw [bt_head]; exact of_nat8 hi hhi
  s5 := bt_tail _ _
  z6 := bt_pos _ _
  e6 := by rw [bt_head]; rfl
  s6 := bt_tail _ _
  z7 := by rw [bt_size]; rfl
  d := by rw [bt_size, bt_size]; show 1 < 6; decide
theorem lit_list (l : List UInt8) : (⟨l.toArray⟩ : ByteArray).toList = l := bt_list l
theorem pat_in (lo hi : Nat) : (⟨#[91]⟩ : ByteArray) ++ (⟨#[92]⟩ ++ bt [UInt8.ofNat lo] ++ ⟨#[45, 92]⟩ ++ bt [UInt8.ofNat hi] ++ ⟨#[93]⟩) = bt (91 :: tl lo hi) := by
  apply bytes_inj
  rw [bt_list, app_list, app_list, app_list, app_list, app_list, bt_list, bt_list]
  rw [lit_list [91], lit_list [92], lit_list [45, 92], lit_list [93]]
  rfl
theorem pat_out (lo hi : Nat) : (⟨#[91, 94]⟩ : ByteArray) ++ (⟨#[92]⟩ ++ bt [UInt8.ofNat lo] ++ ⟨#[45, 92]⟩ ++ bt [UInt8.ofNat hi] ++ ⟨#[93]⟩) = bt (91 :: 94 :: tl lo hi) := by
  apply bytes_inj
  rw [bt_list, app_list, app_list, app_list, app_list, app_list, bt_list, bt_list]
  rw [lit_list [91, 94], lit_list [92], lit_list [45, 92], lit_list [93]]
  rfl
theorem name_tail (s : ByteArray) (h : 0 < s.size) : Tail1 s (s.extract 1 s.size) := fun X => by
  rw [run_slice_string_from_if _ _ _ _ _ Tryd.underlying9, if_pos ⟨by omega, by omega⟩]
  rfl
end Go.Proofs.YtjddckigiinjgaaDoor
