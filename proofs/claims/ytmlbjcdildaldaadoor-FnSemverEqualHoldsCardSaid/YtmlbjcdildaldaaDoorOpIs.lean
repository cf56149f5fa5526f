/- What an operator says, by its number. -/
import Derived.Test.YtmlbjcdildaldaaDoorOpAll
import Derived.Test.YtmlbjcdildaldaaDoorDoorB
set_option linter.unusedVariables false
set_option linter.unusedSimpArgs false
namespace Go.Proofs.YtmlbjcdildaldaaDoor
open Go.RowKit

def opR (o : Nat) (bar : Bool) (n np a b c a' b' c' : Int) (k : Nat) (pe : Bool) : Bool :=
  match o with
  | 0 => opEq bar n a b a' b' c' (k == 1) (decide (k < 3)) (k == 2)
  | 1 => opNot bar n np a b c a' b' c' (k == 1) (decide (k < 3)) (k == 2) pe
  | 2 => opAbove bar n a b a' b' (k == 1) (decide (k < 3)) (k == 2)
  | 3 => opBelow bar n
  | 4 => opLeast bar n
  | 5 => opMost bar n a b a' b' (k == 1) (decide (k < 3))
  | 6 => opTilde bar n a b a' b' c' (k == 1) (k == 2)
  | _ => opCaret bar n a b c a' b' c' (k == 1) (k == 2)

/-- What the comparison by operator o says of a version and a term's k numbers. -/
def opV (o : Nat) (a b c : Int) (p : ByteArray) (a' b' c' : Int) (p' : ByteArray) (k : Nat) (pre : Bool) : Bool :=
  opR o (preBar p pre) (cmpV (num3 a b c a' b' c') p.toList p'.toList) (preC p.toList p'.toList) a b c a' b' c' k p.toList.isEmpty

theorem flags_apart (k : Nat) : (k == 1) = true → (k == 2) ≠ true := by
  intro h1 h2
  have := beq_iff_eq.1 h1
  have := beq_iff_eq.1 h2
  omega

theorem opIs_any (o : Nat) (ho : o < 8) (k : Nat) (a b c : Int) (p m : ByteArray) (a' b' c' : Int) (p' m' op og : ByteArray) (pre : Bool) (sp : p.size ≤ 2147483647) (sp' : p'.size ≤ 2147483647) (hk2 : k = 2 → p'.toList.isEmpty = true)
    (ra : 0 ≤ a) (rb : 0 ≤ b) (ra' : 0 ≤ a') (rb' : 0 ≤ b') (g h : Nat) :
    OpIs (opF o) g h a b c p m a' b' c' p' m' op og (k == 1) (decide (k < 3)) (k == 2) pre (opV o a b c p a' b' c' p' k pre) := by
  intro k' W hcf hv
  have hc : CmpIs g h k' a b c p m a' b' c' p' m' op og (k == 1) (decide (k < 3)) (k == 2) (cmpV (num3 a b c a' b' c') p.toList p'.toList) := (fun W h1 h2 => compare_any a b c p m a' b' c' p' m' sp sp' g h W h1.v1 h1.v2 h2)
  obtain rfl | rfl | rfl | rfl | rfl | rfl | rfl | rfl : o = 0 ∨ o = 1 ∨ o = 2 ∨ o = 3 ∨ o = 4 ∨ o = 5 ∨ o = 6 ∨ o = 7 := by omega
  · exact eq_any g h k' a b c p m a' b' c' p' m' op og (k == 1) (decide (k < 3)) (k == 2) pre _ W hcf hv hc (flags_apart k)
  · exact noteq_any g h k' a b c p m a' b' c' p' m' op og (k == 1) (decide (k < 3)) (k == 2) pre _ W hcf hv hc _ (fun W h1 => comparePre_any p p' W sp sp' h1) (fun h2 => hk2 (beq_iff_eq.1 h2))
  · exact above_any g h k' a b c p m a' b' c' p' m' op og (k == 1) (decide (k < 3)) (k == 2) pre _ W hcf hv hc
  · exact below_any g h k' a b c p m a' b' c' p' m' op og (k == 1) (decide (k < 3)) (k == 2) pre _ W hcf hv hc
  · exact least_any g h k' a b c p m a' b' c' p' m' op og (k == 1) (decide (k < 3)) (k == 2) pre _ W hcf hv hc
  · exact most_any g h k' a b c p m a' b' c' p' m' op og (k == 1) (decide (k < 3)) (k == 2) pre _ W hcf hv hc
  · exact tilde_any g h k' a b c p m a' b' c' p' m' op og (k == 1) (decide (k < 3)) (k == 2) pre _ W hcf hv hc (flags_apart k)
  · exact caret_any g h k' a b c p m a' b' c' p' m' op og (k == 1) (decide (k < 3)) (k == 2) pre _ W hcf hv hc ra rb ra' rb'

end Go.Proofs.YtmlbjcdildaldaaDoor
