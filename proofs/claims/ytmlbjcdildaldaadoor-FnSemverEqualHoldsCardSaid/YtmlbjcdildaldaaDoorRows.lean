/-
  NARROWER THAN 'FOR EVERY INPUT', by the rows' own cells (each row's printed sentence says how): FnSemverPartOrder: laid · FnSemverNumbersFirst: laid · FnSemverNextAfter: laid · FnSemverCaretHolds: laid · FnSemverEqualHolds: laid · FnSemverCaretWindow: laid · FnSemverTermApart: laid · FnSemverTermLetIn: laid · FnSemverTermWild: laid · FnSemverAgree: laid · FnSemverTermsGroup: laid · FnSemverTermIsOp: laid.
  DERIVED. THE GIVEN ROWS OF THIS SEAT. 12 by the template 'for every input the law returns true; each argument reads behind the call as it read before'; 0 by the template 'total and deterministic' (their statements: YtmlbjcdildaldaaDoorTotals.lean).
  GIVEN WITH THE SEED: the statements are not yours to turn. If you find one false, say at which input.
  Laid BY PROGRAM, IN A SANDBOX (cutbox-rows.mjs): the forced cells as the released guide's own fill.sh prints them over the translation e5cb6b997c65dd94… (all of the seat's roots in one cut). By AI agents, Wed Nov 11 2026. No macro, syntax, notation, axiom, sorry.
-/
import Derived.Test.YtmlbjcdildaldaaDoorChecked
import GoSem.Claim
import GoSem.ClaimJoined
import GoSem.ClaimMapViews
import Derived.JoinedTies
import Derived.KernelRfl
namespace Go.Proofs.YtmlbjcdildaldaaDoor
/- THE CELL 'sum', in the pinned program and in every row, IS THE sha256 OF THE DUMP (.gsa) THAT YtmlbjcdildaldaaDoorProg.lean LOADS. Nothing in Lean hashes anything: it is a label: what it is worth is what the hold of that sum in a sandbox is worth. -/
noncomputable def Tryd.pinned : Pinned := { name := "ytmlbjcdildaldaadoor", sum := "e5cb6b997c65dd949657b56448062a2f8faf7aec61780526e56df4b4982027b9", checked := Tryd.checked }
namespace Rows
def none {H : Type} : Left H := { results := [], args := [] }

/- WHAT THE LISTED PACKAGE-LEVEL VARIABLES READ AS WHEN THE CALL BEGINS. Each datum BY PROGRAM (the guide's laid-datum.mjs) off the statement by which the dump's own 'gosem.cut.vars' lays the variable. In a bare row this is a premise. The card (YtmlbjcdildaldaaDoorCards.lean) ties it to the program's text. -/
def laid_math_bits_deBruijn32tab {H : Type} : DataW H := .agg [.lit (.int .u8 0), .lit (.int .u8 1), .lit (.int .u8 28), .lit (.int .u8 2), .lit (.int .u8 29), .lit (.int .u8 14), .lit (.int .u8 24), .lit (.int .u8 3), .lit (.int .u8 30), .lit (.int .u8 22), .lit (.int .u8 20), .lit (.int .u8 15), .lit (.int .u8 25), .lit (.int .u8 17), .lit (.int .u8 4), .lit (.int .u8 8), .lit (.int .u8 31), .lit (.int .u8 27), .lit (.int .u8 13), .lit (.int .u8 23), .lit (.int .u8 21), .lit (.int .u8 19), .lit (.int .u8 16), .lit (.int .u8 7), .lit (.int .u8 26), .lit (.int .u8 12), .lit (.int .u8 18), .lit (.int .u8 6), .lit (.int .u8 11), .lit (.int .u8 5), .lit (.int .u8 10), .lit (.int .u8 9)]
def laid_math_bits_deBruijn64tab {H : Type} : DataW H := .agg [.lit (.int .u8 0), .lit (.int .u8 1), .lit (.int .u8 56), .lit (.int .u8 2), .lit (.int .u8 57), .lit (.int .u8 49), .lit (.int .u8 28), .lit (.int .u8 3), .lit (.int .u8 61), .lit (.int .u8 58), .lit (.int .u8 42), .lit (.int .u8 50), .lit (.int .u8 38), .lit (.int .u8 29), .lit (.int .u8 17), .lit (.int .u8 4), .lit (.int .u8 62), .lit (.int .u8 47), .lit (.int .u8 59), .lit (.int .u8 36), .lit (.int .u8 45), .lit (.int .u8 43), .lit (.int .u8 51), .lit (.int .u8 22), .lit (.int .u8 53), .lit (.int .u8 39), .lit (.int .u8 33), .lit (.int .u8 30), .lit (.int .u8 24), .lit (.int .u8 18), .lit (.int .u8 12), .lit (.int .u8 5), .lit (.int .u8 63), .lit (.int .u8 55), .lit (.int .u8 48), .lit (.int .u8 27), .lit (.int .u8 60), .lit (.int .u8 41), .lit (.int .u8 37), .lit (.int .u8 16), .lit (.int .u8 46), .lit (.int .u8 35), .lit (.int .u8 44), .lit (.int .u8 21), .lit (.int .u8 52), .lit (.int .u8 32), .lit (.int .u8 23), .lit (.int .u8 11), .lit (.int .u8 54), .lit (.int .u8 26), .lit (.int .u8 40), .lit (.int .u8 15), .lit (.int .u8 34), .lit (.int .u8 20), .lit (.int .u8 31), .lit (.int .u8 10), .lit (.int .u8 25), .lit (.int .u8 14), .lit (.int .u8 19), .lit (.int .u8 9), .lit (.int .u8 13), .lit (.int .u8 8), .lit (.int .u8 7), .lit (.int .u8 6)]
def laid_internal_strconv_uint64pow10 {H : Type} : DataW H := .agg [.lit (.int .u64 1), .lit (.int .u64 10), .lit (.int .u64 100), .lit (.int .u64 1000), .lit (.int .u64 10000), .lit (.int .u64 100000), .lit (.int .u64 1000000), .lit (.int .u64 10000000), .lit (.int .u64 100000000), .lit (.int .u64 1000000000), .lit (.int .u64 10000000000), .lit (.int .u64 100000000000), .lit (.int .u64 1000000000000), .lit (.int .u64 10000000000000), .lit (.int .u64 100000000000000), .lit (.int .u64 1000000000000000), .lit (.int .u64 10000000000000000), .lit (.int .u64 100000000000000000), .lit (.int .u64 1000000000000000000), .lit (.int .u64 10000000000000000000)]
def laid_strconv_ErrRange {H : Type} : DataW H := .iface "*errors.errorString" (.ptr (.agg [.lit (.string [118, 97, 108, 117, 101, 32, 111, 117, 116, 32, 111, 102, 32, 114, 97, 110, 103, 101])]))
def laid_strconv_ErrSyntax {H : Type} : DataW H := .iface "*errors.errorString" (.ptr (.agg [.lit (.string [105, 110, 118, 97, 108, 105, 100, 32, 115, 121, 110, 116, 97, 120])]))

/-- 'laws.FnSemverPartOrder': WHATEVER THE INPUT: true; the input reads as it did. -/
def fnSemverPartOrderSpec : ChangeSpec := { name := "fnSemverPartOrder", fn := fun _ => fun
  | [d1, d2, d3] => { results := [.lit (.bool true)], args := [d1, d2, d3] }
  | _ => none }
def fnSemverPartOrderRow : OpenClaim := { program := "ytmlbjcdildaldaadoor", sum := "e5cb6b997c65dd949657b56448062a2f8faf7aec61780526e56df4b4982027b9", func := "pub-timebook/laws.FnSemverPartOrder", spec := "fnSemverPartOrder", named := ["strconv.ErrSyntax", "strconv.ErrRange", "internal/strconv.uint64pow10", "math/bits.deBruijn32tab", "math/bits.deBruijn64tab"], apart := false, laid := [("math/bits.deBruijn32tab", laid_math_bits_deBruijn32tab), ("math/bits.deBruijn64tab", laid_math_bits_deBruijn64tab), ("internal/strconv.uint64pow10", laid_internal_strconv_uint64pow10), ("strconv.ErrRange", laid_strconv_ErrRange), ("strconv.ErrSyntax", laid_strconv_ErrSyntax)] }
def FnSemverPartOrderSaid : Prop := fnSemverPartOrderRow.holds Tryd.pinned (OpenSpec.ofChange fnSemverPartOrderSpec)

/-- ITS FALSE NEIGHBOUR: 'it returns false'. Refute it at one input. -/
def fnSemverPartOrderWrong : ChangeSpec := { name := "fnSemverPartOrder", fn := fun _ => fun
  | [d1, d2, d3] => { results := [.lit (.bool false)], args := [d1, d2, d3] }
  | _ => none }
def FnSemverPartOrderWrongFalsely : Prop := fnSemverPartOrderRow.holds Tryd.pinned (OpenSpec.ofChange fnSemverPartOrderWrong)

/-- 'laws.FnSemverNumbersFirst': WHATEVER THE INPUT: true; the input reads as it did. -/
def fnSemverNumbersFirstSpec : ChangeSpec := { name := "fnSemverNumbersFirst", fn := fun _ => fun
  | [d1, d2] => { results := [.lit (.bool true)], args := [d1, d2] }
  | _ => none }
def fnSemverNumbersFirstRow : OpenClaim := { program := "ytmlbjcdildaldaadoor", sum := "e5cb6b997c65dd949657b56448062a2f8faf7aec61780526e56df4b4982027b9", func := "pub-timebook/laws.FnSemverNumbersFirst", spec := "fnSemverNumbersFirst", named := ["strconv.ErrSyntax", "strconv.ErrRange", "internal/strconv.uint64pow10", "math/bits.deBruijn32tab", "math/bits.deBruijn64tab"], apart := false, laid := [("math/bits.deBruijn32tab", laid_math_bits_deBruijn32tab), ("math/bits.deBruijn64tab", laid_math_bits_deBruijn64tab), ("internal/strconv.uint64pow10", laid_internal_strconv_uint64pow10), ("strconv.ErrRange", laid_strconv_ErrRange), ("strconv.ErrSyntax", laid_strconv_ErrSyntax)] }
def FnSemverNumbersFirstSaid : Prop := fnSemverNumbersFirstRow.holds Tryd.pinned (OpenSpec.ofChange fnSemverNumbersFirstSpec)

/-- ITS FALSE NEIGHBOUR: 'it returns false'. Refute it at one input. -/
def fnSemverNumbersFirstWrong : ChangeSpec := { name := "fnSemverNumbersFirst", fn := fun _ => fun
  | [d1, d2] => { results := [.lit (.bool false)], args := [d1, d2] }
  | _ => none }
def FnSemverNumbersFirstWrongFalsely : Prop := fnSemverNumbersFirstRow.holds Tryd.pinned (OpenSpec.ofChange fnSemverNumbersFirstWrong)

/-- 'laws.FnSemverNextAfter': WHATEVER THE INPUT: true; the input reads as it did. -/
def fnSemverNextAfterSpec : ChangeSpec := { name := "fnSemverNextAfter", fn := fun _ => fun
  | [d1, d2] => { results := [.lit (.bool true)], args := [d1, d2] }
  | _ => none }
def fnSemverNextAfterRow : OpenClaim := { program := "ytmlbjcdildaldaadoor", sum := "e5cb6b997c65dd949657b56448062a2f8faf7aec61780526e56df4b4982027b9", func := "pub-timebook/laws.FnSemverNextAfter", spec := "fnSemverNextAfter", named := ["strconv.ErrSyntax", "strconv.ErrRange", "internal/strconv.uint64pow10", "math/bits.deBruijn32tab", "math/bits.deBruijn64tab"], apart := false, laid := [("math/bits.deBruijn32tab", laid_math_bits_deBruijn32tab), ("math/bits.deBruijn64tab", laid_math_bits_deBruijn64tab), ("internal/strconv.uint64pow10", laid_internal_strconv_uint64pow10), ("strconv.ErrRange", laid_strconv_ErrRange), ("strconv.ErrSyntax", laid_strconv_ErrSyntax)] }
def FnSemverNextAfterSaid : Prop := fnSemverNextAfterRow.holds Tryd.pinned (OpenSpec.ofChange fnSemverNextAfterSpec)

/-- ITS FALSE NEIGHBOUR: 'it returns false'. Refute it at one input. -/
def fnSemverNextAfterWrong : ChangeSpec := { name := "fnSemverNextAfter", fn := fun _ => fun
  | [d1, d2] => { results := [.lit (.bool false)], args := [d1, d2] }
  | _ => none }
def FnSemverNextAfterWrongFalsely : Prop := fnSemverNextAfterRow.holds Tryd.pinned (OpenSpec.ofChange fnSemverNextAfterWrong)

/-- 'laws.FnSemverCaretHolds': WHATEVER THE INPUT: true; the input reads as it did. -/
def fnSemverCaretHoldsSpec : ChangeSpec := { name := "fnSemverCaretHolds", fn := fun _ => fun
  | [d1, d2, d3] => { results := [.lit (.bool true)], args := [d1, d2, d3] }
  | _ => none }
def fnSemverCaretHoldsRow : OpenClaim := { program := "ytmlbjcdildaldaadoor", sum := "e5cb6b997c65dd949657b56448062a2f8faf7aec61780526e56df4b4982027b9", func := "pub-timebook/laws.FnSemverCaretHolds", spec := "fnSemverCaretHolds", named := ["strconv.ErrSyntax", "strconv.ErrRange", "internal/strconv.uint64pow10", "math/bits.deBruijn32tab", "math/bits.deBruijn64tab"], apart := false, laid := [("math/bits.deBruijn32tab", laid_math_bits_deBruijn32tab), ("math/bits.deBruijn64tab", laid_math_bits_deBruijn64tab), ("internal/strconv.uint64pow10", laid_internal_strconv_uint64pow10), ("strconv.ErrRange", laid_strconv_ErrRange), ("strconv.ErrSyntax", laid_strconv_ErrSyntax)] }
def FnSemverCaretHoldsSaid : Prop := fnSemverCaretHoldsRow.holds Tryd.pinned (OpenSpec.ofChange fnSemverCaretHoldsSpec)

/-- ITS FALSE NEIGHBOUR: 'it returns false'. Refute it at one input. -/
def fnSemverCaretHoldsWrong : ChangeSpec := { name := "fnSemverCaretHolds", fn := fun _ => fun
  | [d1, d2, d3] => { results := [.lit (.bool false)], args := [d1, d2, d3] }
  | _ => none }
def FnSemverCaretHoldsWrongFalsely : Prop := fnSemverCaretHoldsRow.holds Tryd.pinned (OpenSpec.ofChange fnSemverCaretHoldsWrong)

/-- 'laws.FnSemverEqualHolds': WHATEVER THE INPUT: true; the input reads as it did. -/
def fnSemverEqualHoldsSpec : ChangeSpec := { name := "fnSemverEqualHolds", fn := fun _ => fun
  | [d1, d2, d3] => { results := [.lit (.bool true)], args := [d1, d2, d3] }
  | _ => none }
def fnSemverEqualHoldsRow : OpenClaim := { program := "ytmlbjcdildaldaadoor", sum := "e5cb6b997c65dd949657b56448062a2f8faf7aec61780526e56df4b4982027b9", func := "pub-timebook/laws.FnSemverEqualHolds", spec := "fnSemverEqualHolds", named := ["strconv.ErrSyntax", "strconv.ErrRange", "internal/strconv.uint64pow10", "math/bits.deBruijn32tab", "math/bits.deBruijn64tab"], apart := false, laid := [("math/bits.deBruijn32tab", laid_math_bits_deBruijn32tab), ("math/bits.deBruijn64tab", laid_math_bits_deBruijn64tab), ("internal/strconv.uint64pow10", laid_internal_strconv_uint64pow10), ("strconv.ErrRange", laid_strconv_ErrRange), ("strconv.ErrSyntax", laid_strconv_ErrSyntax)] }
def FnSemverEqualHoldsSaid : Prop := fnSemverEqualHoldsRow.holds Tryd.pinned (OpenSpec.ofChange fnSemverEqualHoldsSpec)

/-- ITS FALSE NEIGHBOUR: 'it returns false'. Refute it at one input. -/
def fnSemverEqualHoldsWrong : ChangeSpec := { name := "fnSemverEqualHolds", fn := fun _ => fun
  | [d1, d2, d3] => { results := [.lit (.bool false)], args := [d1, d2, d3] }
  | _ => none }
def FnSemverEqualHoldsWrongFalsely : Prop := fnSemverEqualHoldsRow.holds Tryd.pinned (OpenSpec.ofChange fnSemverEqualHoldsWrong)

/-- 'laws.FnSemverCaretWindow': WHATEVER THE INPUT: true; the input reads as it did. -/
def fnSemverCaretWindowSpec : ChangeSpec := { name := "fnSemverCaretWindow", fn := fun _ => fun
  | [d1, d2] => { results := [.lit (.bool true)], args := [d1, d2] }
  | _ => none }
def fnSemverCaretWindowRow : OpenClaim := { program := "ytmlbjcdildaldaadoor", sum := "e5cb6b997c65dd949657b56448062a2f8faf7aec61780526e56df4b4982027b9", func := "pub-timebook/laws.FnSemverCaretWindow", spec := "fnSemverCaretWindow", named := ["strconv.ErrSyntax", "strconv.ErrRange", "internal/strconv.uint64pow10", "math/bits.deBruijn32tab", "math/bits.deBruijn64tab"], apart := false, laid := [("math/bits.deBruijn32tab", laid_math_bits_deBruijn32tab), ("math/bits.deBruijn64tab", laid_math_bits_deBruijn64tab), ("internal/strconv.uint64pow10", laid_internal_strconv_uint64pow10), ("strconv.ErrRange", laid_strconv_ErrRange), ("strconv.ErrSyntax", laid_strconv_ErrSyntax)] }
def FnSemverCaretWindowSaid : Prop := fnSemverCaretWindowRow.holds Tryd.pinned (OpenSpec.ofChange fnSemverCaretWindowSpec)

/-- ITS FALSE NEIGHBOUR: 'it returns false'. Refute it at one input. -/
def fnSemverCaretWindowWrong : ChangeSpec := { name := "fnSemverCaretWindow", fn := fun _ => fun
  | [d1, d2] => { results := [.lit (.bool false)], args := [d1, d2] }
  | _ => none }
def FnSemverCaretWindowWrongFalsely : Prop := fnSemverCaretWindowRow.holds Tryd.pinned (OpenSpec.ofChange fnSemverCaretWindowWrong)

/-- 'laws.FnSemverTermApart': WHATEVER THE INPUT: true; the input reads as it did. -/
def fnSemverTermApartSpec : ChangeSpec := { name := "fnSemverTermApart", fn := fun _ => fun
  | [d1, d2, d3] => { results := [.lit (.bool true)], args := [d1, d2, d3] }
  | _ => none }
def fnSemverTermApartRow : OpenClaim := { program := "ytmlbjcdildaldaadoor", sum := "e5cb6b997c65dd949657b56448062a2f8faf7aec61780526e56df4b4982027b9", func := "pub-timebook/laws.FnSemverTermApart", spec := "fnSemverTermApart", named := ["strconv.ErrSyntax", "strconv.ErrRange", "internal/strconv.uint64pow10", "math/bits.deBruijn32tab", "math/bits.deBruijn64tab"], apart := false, laid := [("math/bits.deBruijn32tab", laid_math_bits_deBruijn32tab), ("math/bits.deBruijn64tab", laid_math_bits_deBruijn64tab), ("internal/strconv.uint64pow10", laid_internal_strconv_uint64pow10), ("strconv.ErrRange", laid_strconv_ErrRange), ("strconv.ErrSyntax", laid_strconv_ErrSyntax)] }
def FnSemverTermApartSaid : Prop := fnSemverTermApartRow.holds Tryd.pinned (OpenSpec.ofChange fnSemverTermApartSpec)

/-- ITS FALSE NEIGHBOUR: 'it returns false'. Refute it at one input. -/
def fnSemverTermApartWrong : ChangeSpec := { name := "fnSemverTermApart", fn := fun _ => fun
  | [d1, d2, d3] => { results := [.lit (.bool false)], args := [d1, d2, d3] }
  | _ => none }
def FnSemverTermApartWrongFalsely : Prop := fnSemverTermApartRow.holds Tryd.pinned (OpenSpec.ofChange fnSemverTermApartWrong)

/-- 'laws.FnSemverTermLetIn': WHATEVER THE INPUT: true; the input reads as it did. -/
def fnSemverTermLetInSpec : ChangeSpec := { name := "fnSemverTermLetIn", fn := fun _ => fun
  | [d1, d2] => { results := [.lit (.bool true)], args := [d1, d2] }
  | _ => none }
def fnSemverTermLetInRow : OpenClaim := { program := "ytmlbjcdildaldaadoor", sum := "e5cb6b997c65dd949657b56448062a2f8faf7aec61780526e56df4b4982027b9", func := "pub-timebook/laws.FnSemverTermLetIn", spec := "fnSemverTermLetIn", named := ["strconv.ErrSyntax", "strconv.ErrRange", "internal/strconv.uint64pow10", "math/bits.deBruijn32tab", "math/bits.deBruijn64tab"], apart := false, laid := [("math/bits.deBruijn32tab", laid_math_bits_deBruijn32tab), ("math/bits.deBruijn64tab", laid_math_bits_deBruijn64tab), ("internal/strconv.uint64pow10", laid_internal_strconv_uint64pow10), ("strconv.ErrRange", laid_strconv_ErrRange), ("strconv.ErrSyntax", laid_strconv_ErrSyntax)] }
def FnSemverTermLetInSaid : Prop := fnSemverTermLetInRow.holds Tryd.pinned (OpenSpec.ofChange fnSemverTermLetInSpec)

/-- ITS FALSE NEIGHBOUR: 'it returns false'. Refute it at one input. -/
def fnSemverTermLetInWrong : ChangeSpec := { name := "fnSemverTermLetIn", fn := fun _ => fun
  | [d1, d2] => { results := [.lit (.bool false)], args := [d1, d2] }
  | _ => none }
def FnSemverTermLetInWrongFalsely : Prop := fnSemverTermLetInRow.holds Tryd.pinned (OpenSpec.ofChange fnSemverTermLetInWrong)

/-- 'laws.FnSemverTermWild': WHATEVER THE INPUT: true; the input reads as it did. -/
def fnSemverTermWildSpec : ChangeSpec := { name := "fnSemverTermWild", fn := fun _ => fun
  | [d1, d2, d3, d4] => { results := [.lit (.bool true)], args := [d1, d2, d3, d4] }
  | _ => none }
def fnSemverTermWildRow : OpenClaim := { program := "ytmlbjcdildaldaadoor", sum := "e5cb6b997c65dd949657b56448062a2f8faf7aec61780526e56df4b4982027b9", func := "pub-timebook/laws.FnSemverTermWild", spec := "fnSemverTermWild", named := ["strconv.ErrSyntax", "strconv.ErrRange", "internal/strconv.uint64pow10", "math/bits.deBruijn32tab", "math/bits.deBruijn64tab"], apart := false, laid := [("math/bits.deBruijn32tab", laid_math_bits_deBruijn32tab), ("math/bits.deBruijn64tab", laid_math_bits_deBruijn64tab), ("internal/strconv.uint64pow10", laid_internal_strconv_uint64pow10), ("strconv.ErrRange", laid_strconv_ErrRange), ("strconv.ErrSyntax", laid_strconv_ErrSyntax)] }
def FnSemverTermWildSaid : Prop := fnSemverTermWildRow.holds Tryd.pinned (OpenSpec.ofChange fnSemverTermWildSpec)

/-- ITS FALSE NEIGHBOUR: 'it returns false'. Refute it at one input. -/
def fnSemverTermWildWrong : ChangeSpec := { name := "fnSemverTermWild", fn := fun _ => fun
  | [d1, d2, d3, d4] => { results := [.lit (.bool false)], args := [d1, d2, d3, d4] }
  | _ => none }
def FnSemverTermWildWrongFalsely : Prop := fnSemverTermWildRow.holds Tryd.pinned (OpenSpec.ofChange fnSemverTermWildWrong)

/-- 'laws.FnSemverAgree': WHATEVER THE INPUT: true; the input reads as it did. -/
def fnSemverAgreeSpec : ChangeSpec := { name := "fnSemverAgree", fn := fun _ => fun
  | [d1, d2, d3] => { results := [.lit (.bool true)], args := [d1, d2, d3] }
  | _ => none }
def fnSemverAgreeRow : OpenClaim := { program := "ytmlbjcdildaldaadoor", sum := "e5cb6b997c65dd949657b56448062a2f8faf7aec61780526e56df4b4982027b9", func := "pub-timebook/laws.FnSemverAgree", spec := "fnSemverAgree", unfollowed := true, recurses := true, named := ["strconv.ErrSyntax", "strconv.ErrRange", "internal/strconv.uint64pow10", "math/bits.deBruijn32tab", "math/bits.deBruijn64tab"], apart := false, laid := [("math/bits.deBruijn32tab", laid_math_bits_deBruijn32tab), ("math/bits.deBruijn64tab", laid_math_bits_deBruijn64tab), ("internal/strconv.uint64pow10", laid_internal_strconv_uint64pow10), ("strconv.ErrRange", laid_strconv_ErrRange), ("strconv.ErrSyntax", laid_strconv_ErrSyntax)] }
def FnSemverAgreeSaid : Prop := fnSemverAgreeRow.holds Tryd.pinned (OpenSpec.ofChange fnSemverAgreeSpec)

/-- ITS FALSE NEIGHBOUR: 'it returns false'. Refute it at one input. -/
def fnSemverAgreeWrong : ChangeSpec := { name := "fnSemverAgree", fn := fun _ => fun
  | [d1, d2, d3] => { results := [.lit (.bool false)], args := [d1, d2, d3] }
  | _ => none }
def FnSemverAgreeWrongFalsely : Prop := fnSemverAgreeRow.holds Tryd.pinned (OpenSpec.ofChange fnSemverAgreeWrong)

/-- 'laws.FnSemverTermsGroup': WHATEVER THE INPUT: true; the input reads as it did. -/
def fnSemverTermsGroupSpec : ChangeSpec := { name := "fnSemverTermsGroup", fn := fun _ => fun
  | [d1, d2] => { results := [.lit (.bool true)], args := [d1, d2] }
  | _ => none }
def fnSemverTermsGroupRow : OpenClaim := { program := "ytmlbjcdildaldaadoor", sum := "e5cb6b997c65dd949657b56448062a2f8faf7aec61780526e56df4b4982027b9", func := "pub-timebook/laws.FnSemverTermsGroup", spec := "fnSemverTermsGroup", named := ["strconv.ErrSyntax", "strconv.ErrRange", "internal/strconv.uint64pow10", "math/bits.deBruijn32tab", "math/bits.deBruijn64tab"], apart := false, laid := [("math/bits.deBruijn32tab", laid_math_bits_deBruijn32tab), ("math/bits.deBruijn64tab", laid_math_bits_deBruijn64tab), ("internal/strconv.uint64pow10", laid_internal_strconv_uint64pow10), ("strconv.ErrRange", laid_strconv_ErrRange), ("strconv.ErrSyntax", laid_strconv_ErrSyntax)] }
def FnSemverTermsGroupSaid : Prop := fnSemverTermsGroupRow.holds Tryd.pinned (OpenSpec.ofChange fnSemverTermsGroupSpec)

/-- ITS FALSE NEIGHBOUR: 'it returns false'. Refute it at one input. -/
def fnSemverTermsGroupWrong : ChangeSpec := { name := "fnSemverTermsGroup", fn := fun _ => fun
  | [d1, d2] => { results := [.lit (.bool false)], args := [d1, d2] }
  | _ => none }
def FnSemverTermsGroupWrongFalsely : Prop := fnSemverTermsGroupRow.holds Tryd.pinned (OpenSpec.ofChange fnSemverTermsGroupWrong)

/-- 'laws.FnSemverTermIsOp': WHATEVER THE INPUT: true; the input reads as it did. -/
def fnSemverTermIsOpSpec : ChangeSpec := { name := "fnSemverTermIsOp", fn := fun _ => fun
  | [d1, d2, d3] => { results := [.lit (.bool true)], args := [d1, d2, d3] }
  | _ => none }
def fnSemverTermIsOpRow : OpenClaim := { program := "ytmlbjcdildaldaadoor", sum := "e5cb6b997c65dd949657b56448062a2f8faf7aec61780526e56df4b4982027b9", func := "pub-timebook/laws.FnSemverTermIsOp", spec := "fnSemverTermIsOp", named := ["strconv.ErrSyntax", "strconv.ErrRange", "internal/strconv.uint64pow10", "math/bits.deBruijn32tab", "math/bits.deBruijn64tab"], apart := false, laid := [("math/bits.deBruijn32tab", laid_math_bits_deBruijn32tab), ("math/bits.deBruijn64tab", laid_math_bits_deBruijn64tab), ("internal/strconv.uint64pow10", laid_internal_strconv_uint64pow10), ("strconv.ErrRange", laid_strconv_ErrRange), ("strconv.ErrSyntax", laid_strconv_ErrSyntax)] }
def FnSemverTermIsOpSaid : Prop := fnSemverTermIsOpRow.holds Tryd.pinned (OpenSpec.ofChange fnSemverTermIsOpSpec)

/-- ITS FALSE NEIGHBOUR: 'it returns false'. Refute it at one input. -/
def fnSemverTermIsOpWrong : ChangeSpec := { name := "fnSemverTermIsOp", fn := fun _ => fun
  | [d1, d2, d3] => { results := [.lit (.bool false)], args := [d1, d2, d3] }
  | _ => none }
def FnSemverTermIsOpWrongFalsely : Prop := fnSemverTermIsOpRow.holds Tryd.pinned (OpenSpec.ofChange fnSemverTermIsOpWrong)

/- THE SECOND FORM. 'bulk': how many values and letters a reading holds, each counted each time it is reached (what is shared counts as often as it is met; a slice's spare places count too). A statement '..UptoSaid' is the law's where the arguments, and the package variables that the reading takes, are together of bulk at most 1048576: NARROWER than '..Said'. Prove '..Said' where nothing that the law and all that it calls make is longer than what came in: it says more and counts as full. Else prove '..UptoSaid'. A law counts once. -/
mutual
def uptoBulk {H : Type} : DataW H → Nat
  | .lit (.string bytes) => bytes.length + 1
  | .lit _ => 1
  | .nil => 1
  | .ptr d => uptoBulk d + 1
  | .slice elems spare => uptoBulkAll elems + uptoBulkAll spare + 1
  | .agg parts => uptoBulkAll parts + 1
  | .iface _ d => uptoBulk d + 1
  | .map entries => uptoBulkEntries entries + 1
  | .held _ => 1
def uptoBulkAll {H : Type} : List (DataW H) → Nat
  | [] => 0
  | d :: r => uptoBulk d + uptoBulkAll r
def uptoBulkEntries {H : Type} : List (Lit × DataW H) → Nat
  | [] => 0
  | x :: r => uptoBulkEntry x + uptoBulkEntries r
def uptoBulkEntry {H : Type} : Lit × DataW H → Nat
  | (.string bytes, d) => bytes.length + uptoBulk d + 1
  | (_, d) => uptoBulk d + 1
 end
def uptoSmall : (H : Type) → List (DataW H) → Bool := fun _ ds => decide (uptoBulkAll ds ≤ 1048576)
def OpenSpec.upto (s : _root_.Go.ChangeSpec) : _root_.Go.OpenSpec := { _root_.Go.OpenSpec.ofChange s with cond := some uptoSmall }

/-- 'laws.FnSemverPartOrder', WHERE WHAT IT READS IS OF BULK AT MOST 1048576: true; the input reads as it did. -/
def fnSemverPartOrderUptoRow : OpenClaim := { program := "ytmlbjcdildaldaadoor", sum := "e5cb6b997c65dd949657b56448062a2f8faf7aec61780526e56df4b4982027b9", func := "pub-timebook/laws.FnSemverPartOrder", spec := "fnSemverPartOrder", named := ["strconv.ErrSyntax", "strconv.ErrRange", "internal/strconv.uint64pow10", "math/bits.deBruijn32tab", "math/bits.deBruijn64tab"], apart := false, laid := [("math/bits.deBruijn32tab", laid_math_bits_deBruijn32tab), ("math/bits.deBruijn64tab", laid_math_bits_deBruijn64tab), ("internal/strconv.uint64pow10", laid_internal_strconv_uint64pow10), ("strconv.ErrRange", laid_strconv_ErrRange), ("strconv.ErrSyntax", laid_strconv_ErrSyntax)], narrowed := true }
def FnSemverPartOrderUptoSaid : Prop := fnSemverPartOrderUptoRow.holds Tryd.pinned (OpenSpec.upto fnSemverPartOrderSpec)

/-- 'laws.FnSemverNumbersFirst', WHERE WHAT IT READS IS OF BULK AT MOST 1048576: true; the input reads as it did. -/
def fnSemverNumbersFirstUptoRow : OpenClaim := { program := "ytmlbjcdildaldaadoor", sum := "e5cb6b997c65dd949657b56448062a2f8faf7aec61780526e56df4b4982027b9", func := "pub-timebook/laws.FnSemverNumbersFirst", spec := "fnSemverNumbersFirst", named := ["strconv.ErrSyntax", "strconv.ErrRange", "internal/strconv.uint64pow10", "math/bits.deBruijn32tab", "math/bits.deBruijn64tab"], apart := false, laid := [("math/bits.deBruijn32tab", laid_math_bits_deBruijn32tab), ("math/bits.deBruijn64tab", laid_math_bits_deBruijn64tab), ("internal/strconv.uint64pow10", laid_internal_strconv_uint64pow10), ("strconv.ErrRange", laid_strconv_ErrRange), ("strconv.ErrSyntax", laid_strconv_ErrSyntax)], narrowed := true }
def FnSemverNumbersFirstUptoSaid : Prop := fnSemverNumbersFirstUptoRow.holds Tryd.pinned (OpenSpec.upto fnSemverNumbersFirstSpec)

/-- 'laws.FnSemverNextAfter', WHERE WHAT IT READS IS OF BULK AT MOST 1048576: true; the input reads as it did. -/
def fnSemverNextAfterUptoRow : OpenClaim := { program := "ytmlbjcdildaldaadoor", sum := "e5cb6b997c65dd949657b56448062a2f8faf7aec61780526e56df4b4982027b9", func := "pub-timebook/laws.FnSemverNextAfter", spec := "fnSemverNextAfter", named := ["strconv.ErrSyntax", "strconv.ErrRange", "internal/strconv.uint64pow10", "math/bits.deBruijn32tab", "math/bits.deBruijn64tab"], apart := false, laid := [("math/bits.deBruijn32tab", laid_math_bits_deBruijn32tab), ("math/bits.deBruijn64tab", laid_math_bits_deBruijn64tab), ("internal/strconv.uint64pow10", laid_internal_strconv_uint64pow10), ("strconv.ErrRange", laid_strconv_ErrRange), ("strconv.ErrSyntax", laid_strconv_ErrSyntax)], narrowed := true }
def FnSemverNextAfterUptoSaid : Prop := fnSemverNextAfterUptoRow.holds Tryd.pinned (OpenSpec.upto fnSemverNextAfterSpec)

/-- 'laws.FnSemverCaretHolds', WHERE WHAT IT READS IS OF BULK AT MOST 1048576: true; the input reads as it did. -/
def fnSemverCaretHoldsUptoRow : OpenClaim := { program := "ytmlbjcdildaldaadoor", sum := "e5cb6b997c65dd949657b56448062a2f8faf7aec61780526e56df4b4982027b9", func := "pub-timebook/laws.FnSemverCaretHolds", spec := "fnSemverCaretHolds", named := ["strconv.ErrSyntax", "strconv.ErrRange", "internal/strconv.uint64pow10", "math/bits.deBruijn32tab", "math/bits.deBruijn64tab"], apart := false, laid := [("math/bits.deBruijn32tab", laid_math_bits_deBruijn32tab), ("math/bits.deBruijn64tab", laid_math_bits_deBruijn64tab), ("internal/strconv.uint64pow10", laid_internal_strconv_uint64pow10), ("strconv.ErrRange", laid_strconv_ErrRange), ("strconv.ErrSyntax", laid_strconv_ErrSyntax)], narrowed := true }
def FnSemverCaretHoldsUptoSaid : Prop := fnSemverCaretHoldsUptoRow.holds Tryd.pinned (OpenSpec.upto fnSemverCaretHoldsSpec)

/-- 'laws.FnSemverEqualHolds', WHERE WHAT IT READS IS OF BULK AT MOST 1048576: true; the input reads as it did. -/
def fnSemverEqualHoldsUptoRow : OpenClaim := { program := "ytmlbjcdildaldaadoor", sum := "e5cb6b997c65dd949657b56448062a2f8faf7aec61780526e56df4b4982027b9", func := "pub-timebook/laws.FnSemverEqualHolds", spec := "fnSemverEqualHolds", named := ["strconv.ErrSyntax", "strconv.ErrRange", "internal/strconv.uint64pow10", "math/bits.deBruijn32tab", "math/bits.deBruijn64tab"], apart := false, laid := [("math/bits.deBruijn32tab", laid_math_bits_deBruijn32tab), ("math/bits.deBruijn64tab", laid_math_bits_deBruijn64tab), ("internal/strconv.uint64pow10", laid_internal_strconv_uint64pow10), ("strconv.ErrRange", laid_strconv_ErrRange), ("strconv.ErrSyntax", laid_strconv_ErrSyntax)], narrowed := true }
def FnSemverEqualHoldsUptoSaid : Prop := fnSemverEqualHoldsUptoRow.holds Tryd.pinned (OpenSpec.upto fnSemverEqualHoldsSpec)

/-- 'laws.FnSemverCaretWindow', WHERE WHAT IT READS IS OF BULK AT MOST 1048576: true; the input reads as it did. -/
def fnSemverCaretWindowUptoRow : OpenClaim := { program := "ytmlbjcdildaldaadoor", sum := "e5cb6b997c65dd949657b56448062a2f8faf7aec61780526e56df4b4982027b9", func := "pub-timebook/laws.FnSemverCaretWindow", spec := "fnSemverCaretWindow", named := ["strconv.ErrSyntax", "strconv.ErrRange", "internal/strconv.uint64pow10", "math/bits.deBruijn32tab", "math/bits.deBruijn64tab"], apart := false, laid := [("math/bits.deBruijn32tab", laid_math_bits_deBruijn32tab), ("math/bits.deBruijn64tab", laid_math_bits_deBruijn64tab), ("internal/strconv.uint64pow10", laid_internal_strconv_uint64pow10), ("strconv.ErrRange", laid_strconv_ErrRange), ("strconv.ErrSyntax", laid_strconv_ErrSyntax)], narrowed := true }
def FnSemverCaretWindowUptoSaid : Prop := fnSemverCaretWindowUptoRow.holds Tryd.pinned (OpenSpec.upto fnSemverCaretWindowSpec)

/-- 'laws.FnSemverTermApart', WHERE WHAT IT READS IS OF BULK AT MOST 1048576: true; the input reads as it did. -/
def fnSemverTermApartUptoRow : OpenClaim := { program := "ytmlbjcdildaldaadoor", sum := "e5cb6b997c65dd949657b56448062a2f8faf7aec61780526e56df4b4982027b9", func := "pub-timebook/laws.FnSemverTermApart", spec := "fnSemverTermApart", named := ["strconv.ErrSyntax", "strconv.ErrRange", "internal/strconv.uint64pow10", "math/bits.deBruijn32tab", "math/bits.deBruijn64tab"], apart := false, laid := [("math/bits.deBruijn32tab", laid_math_bits_deBruijn32tab), ("math/bits.deBruijn64tab", laid_math_bits_deBruijn64tab), ("internal/strconv.uint64pow10", laid_internal_strconv_uint64pow10), ("strconv.ErrRange", laid_strconv_ErrRange), ("strconv.ErrSyntax", laid_strconv_ErrSyntax)], narrowed := true }
def FnSemverTermApartUptoSaid : Prop := fnSemverTermApartUptoRow.holds Tryd.pinned (OpenSpec.upto fnSemverTermApartSpec)

/-- 'laws.FnSemverTermLetIn', WHERE WHAT IT READS IS OF BULK AT MOST 1048576: true; the input reads as it did. -/
def fnSemverTermLetInUptoRow : OpenClaim := { program := "ytmlbjcdildaldaadoor", sum := "e5cb6b997c65dd949657b56448062a2f8faf7aec61780526e56df4b4982027b9", func := "pub-timebook/laws.FnSemverTermLetIn", spec := "fnSemverTermLetIn", named := ["strconv.ErrSyntax", "strconv.ErrRange", "internal/strconv.uint64pow10", "math/bits.deBruijn32tab", "math/bits.deBruijn64tab"], apart := false, laid := [("math/bits.deBruijn32tab", laid_math_bits_deBruijn32tab), ("math/bits.deBruijn64tab", laid_math_bits_deBruijn64tab), ("internal/strconv.uint64pow10", laid_internal_strconv_uint64pow10), ("strconv.ErrRange", laid_strconv_ErrRange), ("strconv.ErrSyntax", laid_strconv_ErrSyntax)], narrowed := true }
def FnSemverTermLetInUptoSaid : Prop := fnSemverTermLetInUptoRow.holds Tryd.pinned (OpenSpec.upto fnSemverTermLetInSpec)

/-- 'laws.FnSemverTermWild', WHERE WHAT IT READS IS OF BULK AT MOST 1048576: true; the input reads as it did. -/
def fnSemverTermWildUptoRow : OpenClaim := { program := "ytmlbjcdildaldaadoor", sum := "e5cb6b997c65dd949657b56448062a2f8faf7aec61780526e56df4b4982027b9", func := "pub-timebook/laws.FnSemverTermWild", spec := "fnSemverTermWild", named := ["strconv.ErrSyntax", "strconv.ErrRange", "internal/strconv.uint64pow10", "math/bits.deBruijn32tab", "math/bits.deBruijn64tab"], apart := false, laid := [("math/bits.deBruijn32tab", laid_math_bits_deBruijn32tab), ("math/bits.deBruijn64tab", laid_math_bits_deBruijn64tab), ("internal/strconv.uint64pow10", laid_internal_strconv_uint64pow10), ("strconv.ErrRange", laid_strconv_ErrRange), ("strconv.ErrSyntax", laid_strconv_ErrSyntax)], narrowed := true }
def FnSemverTermWildUptoSaid : Prop := fnSemverTermWildUptoRow.holds Tryd.pinned (OpenSpec.upto fnSemverTermWildSpec)

/-- 'laws.FnSemverAgree', WHERE WHAT IT READS IS OF BULK AT MOST 1048576: true; the input reads as it did. -/
def fnSemverAgreeUptoRow : OpenClaim := { program := "ytmlbjcdildaldaadoor", sum := "e5cb6b997c65dd949657b56448062a2f8faf7aec61780526e56df4b4982027b9", func := "pub-timebook/laws.FnSemverAgree", spec := "fnSemverAgree", unfollowed := true, recurses := true, named := ["strconv.ErrSyntax", "strconv.ErrRange", "internal/strconv.uint64pow10", "math/bits.deBruijn32tab", "math/bits.deBruijn64tab"], apart := false, laid := [("math/bits.deBruijn32tab", laid_math_bits_deBruijn32tab), ("math/bits.deBruijn64tab", laid_math_bits_deBruijn64tab), ("internal/strconv.uint64pow10", laid_internal_strconv_uint64pow10), ("strconv.ErrRange", laid_strconv_ErrRange), ("strconv.ErrSyntax", laid_strconv_ErrSyntax)], narrowed := true }
def FnSemverAgreeUptoSaid : Prop := fnSemverAgreeUptoRow.holds Tryd.pinned (OpenSpec.upto fnSemverAgreeSpec)

/-- 'laws.FnSemverTermsGroup', WHERE WHAT IT READS IS OF BULK AT MOST 1048576: true; the input reads as it did. -/
def fnSemverTermsGroupUptoRow : OpenClaim := { program := "ytmlbjcdildaldaadoor", sum := "e5cb6b997c65dd949657b56448062a2f8faf7aec61780526e56df4b4982027b9", func := "pub-timebook/laws.FnSemverTermsGroup", spec := "fnSemverTermsGroup", named := ["strconv.ErrSyntax", "strconv.ErrRange", "internal/strconv.uint64pow10", "math/bits.deBruijn32tab", "math/bits.deBruijn64tab"], apart := false, laid := [("math/bits.deBruijn32tab", laid_math_bits_deBruijn32tab), ("math/bits.deBruijn64tab", laid_math_bits_deBruijn64tab), ("internal/strconv.uint64pow10", laid_internal_strconv_uint64pow10), ("strconv.ErrRange", laid_strconv_ErrRange), ("strconv.ErrSyntax", laid_strconv_ErrSyntax)], narrowed := true }
def FnSemverTermsGroupUptoSaid : Prop := fnSemverTermsGroupUptoRow.holds Tryd.pinned (OpenSpec.upto fnSemverTermsGroupSpec)

/-- 'laws.FnSemverTermIsOp', WHERE WHAT IT READS IS OF BULK AT MOST 1048576: true; the input reads as it did. -/
def fnSemverTermIsOpUptoRow : OpenClaim := { program := "ytmlbjcdildaldaadoor", sum := "e5cb6b997c65dd949657b56448062a2f8faf7aec61780526e56df4b4982027b9", func := "pub-timebook/laws.FnSemverTermIsOp", spec := "fnSemverTermIsOp", named := ["strconv.ErrSyntax", "strconv.ErrRange", "internal/strconv.uint64pow10", "math/bits.deBruijn32tab", "math/bits.deBruijn64tab"], apart := false, laid := [("math/bits.deBruijn32tab", laid_math_bits_deBruijn32tab), ("math/bits.deBruijn64tab", laid_math_bits_deBruijn64tab), ("internal/strconv.uint64pow10", laid_internal_strconv_uint64pow10), ("strconv.ErrRange", laid_strconv_ErrRange), ("strconv.ErrSyntax", laid_strconv_ErrSyntax)], narrowed := true }
def FnSemverTermIsOpUptoSaid : Prop := fnSemverTermIsOpUptoRow.holds Tryd.pinned (OpenSpec.upto fnSemverTermIsOpSpec)

end Rows
end Go.Proofs.YtmlbjcdildaldaaDoor
