/-
  No cell of these rows narrows 'for every input' (looked for: loops, veiled, ifaces, maps, wideKeys, modest, calm, conditions, laid).
  DERIVED. THE GIVEN ROWS OF THIS SEAT. 5 by the template 'for every input the law returns true; each argument reads behind the call as it read before'; 0 by the template 'total and deterministic' (their statements: YtfmagbkcfeckhaaTotals.lean).
  GIVEN WITH THE SEED: the statements are not yours to turn. If you find one false, say at which input.
  Laid BY PROGRAM, IN A SANDBOX (cutbox-rows.mjs): the forced cells as the released guide's own fill.sh prints them over the translation 05f3aea3757b59c0… (all of the seat's roots in one cut). By AI agents, Wed Nov 11 2026. No macro, syntax, notation, axiom, sorry.
-/
import Derived.Test.YtfmagbkcfeckhaaChecked
import GoSem.Claim
import GoSem.ClaimJoined
import GoSem.ClaimMapViews
import Derived.JoinedTies
import Derived.KernelRfl
namespace Go.Proofs.Ytfmagbkcfeckhaa
/- THE CELL 'sum', in the pinned program and in every row, IS THE sha256 OF THE DUMP (.gsa) THAT YtfmagbkcfeckhaaProg.lean LOADS. Nothing in Lean hashes anything: it is a label: what it is worth is what the hold of that sum in a sandbox is worth. -/
noncomputable def Try.pinned : Pinned := { name := "ytfmagbkcfeckhaa", sum := "05f3aea3757b59c0b5fd8a5820af6329e14e08e616a0455a3f6e8a705567ed23", checked := Try.checked }
namespace Rows
def none {H : Type} : Left H := { results := [], args := [] }

/-- 'laws.FnCronNextBothDays': WHATEVER THE INPUT: true; the input reads as it did. -/
def fnCronNextBothDaysSpec : ChangeSpec := { name := "fnCronNextBothDays", fn := fun _ => fun
  | [d1, d2] => { results := [.lit (.bool true)], args := [d1, d2] }
  | _ => none }
def fnCronNextBothDaysRow : OpenClaim := { program := "ytfmagbkcfeckhaa", sum := "05f3aea3757b59c0b5fd8a5820af6329e14e08e616a0455a3f6e8a705567ed23", func := "pub-timebook/laws.FnCronNextBothDays", spec := "fnCronNextBothDays", unfollowed := true, recurses := true, apart := false }
def FnCronNextBothDaysSaid : Prop := fnCronNextBothDaysRow.holds Try.pinned (OpenSpec.ofChange fnCronNextBothDaysSpec)

/-- ITS FALSE NEIGHBOUR: 'it returns false'. Refute it at one input. -/
def fnCronNextBothDaysWrong : ChangeSpec := { name := "fnCronNextBothDays", fn := fun _ => fun
  | [d1, d2] => { results := [.lit (.bool false)], args := [d1, d2] }
  | _ => none }
def FnCronNextBothDaysWrongFalsely : Prop := fnCronNextBothDaysRow.holds Try.pinned (OpenSpec.ofChange fnCronNextBothDaysWrong)

/-- 'laws.FnCronNextFixed': WHATEVER THE INPUT: true; the input reads as it did. -/
def fnCronNextFixedSpec : ChangeSpec := { name := "fnCronNextFixed", fn := fun _ => fun
  | [d1, d2, d3] => { results := [.lit (.bool true)], args := [d1, d2, d3] }
  | _ => none }
def fnCronNextFixedRow : OpenClaim := { program := "ytfmagbkcfeckhaa", sum := "05f3aea3757b59c0b5fd8a5820af6329e14e08e616a0455a3f6e8a705567ed23", func := "pub-timebook/laws.FnCronNextFixed", spec := "fnCronNextFixed", unfollowed := true, recurses := true, apart := false }
def FnCronNextFixedSaid : Prop := fnCronNextFixedRow.holds Try.pinned (OpenSpec.ofChange fnCronNextFixedSpec)

/-- ITS FALSE NEIGHBOUR: 'it returns false'. Refute it at one input. -/
def fnCronNextFixedWrong : ChangeSpec := { name := "fnCronNextFixed", fn := fun _ => fun
  | [d1, d2, d3] => { results := [.lit (.bool false)], args := [d1, d2, d3] }
  | _ => none }
def FnCronNextFixedWrongFalsely : Prop := fnCronNextFixedRow.holds Try.pinned (OpenSpec.ofChange fnCronNextFixedWrong)

/-- 'laws.FnCronNextInOrder': WHATEVER THE INPUT: true; the input reads as it did. -/
def fnCronNextInOrderSpec : ChangeSpec := { name := "fnCronNextInOrder", fn := fun _ => fun
  | [d1, d2, d3] => { results := [.lit (.bool true)], args := [d1, d2, d3] }
  | _ => none }
def fnCronNextInOrderRow : OpenClaim := { program := "ytfmagbkcfeckhaa", sum := "05f3aea3757b59c0b5fd8a5820af6329e14e08e616a0455a3f6e8a705567ed23", func := "pub-timebook/laws.FnCronNextInOrder", spec := "fnCronNextInOrder", unfollowed := true, recurses := true, apart := false }
def FnCronNextInOrderSaid : Prop := fnCronNextInOrderRow.holds Try.pinned (OpenSpec.ofChange fnCronNextInOrderSpec)

/-- ITS FALSE NEIGHBOUR: 'it returns false'. Refute it at one input. -/
def fnCronNextInOrderWrong : ChangeSpec := { name := "fnCronNextInOrder", fn := fun _ => fun
  | [d1, d2, d3] => { results := [.lit (.bool false)], args := [d1, d2, d3] }
  | _ => none }
def FnCronNextInOrderWrongFalsely : Prop := fnCronNextInOrderRow.holds Try.pinned (OpenSpec.ofChange fnCronNextInOrderWrong)

/-- 'laws.FnCronNextNoDay': WHATEVER THE INPUT: true; the input reads as it did. -/
def fnCronNextNoDaySpec : ChangeSpec := { name := "fnCronNextNoDay", fn := fun _ => fun
  | [d1, d2] => { results := [.lit (.bool true)], args := [d1, d2] }
  | _ => none }
def fnCronNextNoDayRow : OpenClaim := { program := "ytfmagbkcfeckhaa", sum := "05f3aea3757b59c0b5fd8a5820af6329e14e08e616a0455a3f6e8a705567ed23", func := "pub-timebook/laws.FnCronNextNoDay", spec := "fnCronNextNoDay", unfollowed := true, recurses := true, apart := false }
def FnCronNextNoDaySaid : Prop := fnCronNextNoDayRow.holds Try.pinned (OpenSpec.ofChange fnCronNextNoDaySpec)

/-- ITS FALSE NEIGHBOUR: 'it returns false'. Refute it at one input. -/
def fnCronNextNoDayWrong : ChangeSpec := { name := "fnCronNextNoDay", fn := fun _ => fun
  | [d1, d2] => { results := [.lit (.bool false)], args := [d1, d2] }
  | _ => none }
def FnCronNextNoDayWrongFalsely : Prop := fnCronNextNoDayRow.holds Try.pinned (OpenSpec.ofChange fnCronNextNoDayWrong)

/-- 'laws.FnCronWeekly': WHATEVER THE INPUT: true; the input reads as it did. -/
def fnCronWeeklySpec : ChangeSpec := { name := "fnCronWeekly", fn := fun _ => fun
  | [d1, d2, d3] => { results := [.lit (.bool true)], args := [d1, d2, d3] }
  | _ => none }
def fnCronWeeklyRow : OpenClaim := { program := "ytfmagbkcfeckhaa", sum := "05f3aea3757b59c0b5fd8a5820af6329e14e08e616a0455a3f6e8a705567ed23", func := "pub-timebook/laws.FnCronWeekly", spec := "fnCronWeekly", unfollowed := true, recurses := true, apart := false }
def FnCronWeeklySaid : Prop := fnCronWeeklyRow.holds Try.pinned (OpenSpec.ofChange fnCronWeeklySpec)

/-- ITS FALSE NEIGHBOUR: 'it returns false'. Refute it at one input. -/
def fnCronWeeklyWrong : ChangeSpec := { name := "fnCronWeekly", fn := fun _ => fun
  | [d1, d2, d3] => { results := [.lit (.bool false)], args := [d1, d2, d3] }
  | _ => none }
def FnCronWeeklyWrongFalsely : Prop := fnCronWeeklyRow.holds Try.pinned (OpenSpec.ofChange fnCronWeeklyWrong)

/- THE SECOND FORM. 'bulk': how many values and letters a reading holds, each counted each time it is reached (what is shared counts as often as it is met; a slice's spare places count too). A statement '..UptoSaid' is the law's where the arguments, and the package variables that the reading takes, are together of bulk at most 1048576: NARROWER than '..Said'. Prove '..Said' where nothing that the law and all that it calls make is longer than what came in: it says more and counts as full. Else prove '..UptoSaid'. A law counts once. -/
mutual
def uptoBulk {H : Type} : DataW H → Nat
  | .lit (.string bytes) => bytes.length + 1
  | .lit _ => 1
  | .nil => 1
  | .ptr d => uptoBulk d + 1
  | .slice elems spare => uptoBulkAll elems + uptoBulkAll spare + 1
  | .agg parts => uptoBulkAll parts + 1
  | .iface _ d => uptoBulk d + 1
  | .map entries => uptoBulkEntries entries + 1
  | .held _ => 1
def uptoBulkAll {H : Type} : List (DataW H) → Nat
  | [] => 0
  | d :: r => uptoBulk d + uptoBulkAll r
def uptoBulkEntries {H : Type} : List (Lit × DataW H) → Nat
  | [] => 0
  | x :: r => uptoBulkEntry x + uptoBulkEntries r
def uptoBulkEntry {H : Type} : Lit × DataW H → Nat
  | (.string bytes, d) => bytes.length + uptoBulk d + 1
  | (_, d) => uptoBulk d + 1
 end
def uptoSmall : (H : Type) → List (DataW H) → Bool := fun _ ds => decide (uptoBulkAll ds ≤ 1048576)
def OpenSpec.upto (s : _root_.Go.ChangeSpec) : _root_.Go.OpenSpec := { _root_.Go.OpenSpec.ofChange s with cond := some uptoSmall }

/-- 'laws.FnCronNextBothDays', WHERE WHAT IT READS IS OF BULK AT MOST 1048576: true; the input reads as it did. -/
def fnCronNextBothDaysUptoRow : OpenClaim := { program := "ytfmagbkcfeckhaa", sum := "05f3aea3757b59c0b5fd8a5820af6329e14e08e616a0455a3f6e8a705567ed23", func := "pub-timebook/laws.FnCronNextBothDays", spec := "fnCronNextBothDays", unfollowed := true, recurses := true, apart := false, narrowed := true }
def FnCronNextBothDaysUptoSaid : Prop := fnCronNextBothDaysUptoRow.holds Try.pinned (OpenSpec.upto fnCronNextBothDaysSpec)

/-- 'laws.FnCronNextFixed', WHERE WHAT IT READS IS OF BULK AT MOST 1048576: true; the input reads as it did. -/
def fnCronNextFixedUptoRow : OpenClaim := { program := "ytfmagbkcfeckhaa", sum := "05f3aea3757b59c0b5fd8a5820af6329e14e08e616a0455a3f6e8a705567ed23", func := "pub-timebook/laws.FnCronNextFixed", spec := "fnCronNextFixed", unfollowed := true, recurses := true, apart := false, narrowed := true }
def FnCronNextFixedUptoSaid : Prop := fnCronNextFixedUptoRow.holds Try.pinned (OpenSpec.upto fnCronNextFixedSpec)

/-- 'laws.FnCronNextInOrder', WHERE WHAT IT READS IS OF BULK AT MOST 1048576: true; the input reads as it did. -/
def fnCronNextInOrderUptoRow : OpenClaim := { program := "ytfmagbkcfeckhaa", sum := "05f3aea3757b59c0b5fd8a5820af6329e14e08e616a0455a3f6e8a705567ed23", func := "pub-timebook/laws.FnCronNextInOrder", spec := "fnCronNextInOrder", unfollowed := true, recurses := true, apart := false, narrowed := true }
def FnCronNextInOrderUptoSaid : Prop := fnCronNextInOrderUptoRow.holds Try.pinned (OpenSpec.upto fnCronNextInOrderSpec)

/-- 'laws.FnCronNextNoDay', WHERE WHAT IT READS IS OF BULK AT MOST 1048576: true; the input reads as it did. -/
def fnCronNextNoDayUptoRow : OpenClaim := { program := "ytfmagbkcfeckhaa", sum := "05f3aea3757b59c0b5fd8a5820af6329e14e08e616a0455a3f6e8a705567ed23", func := "pub-timebook/laws.FnCronNextNoDay", spec := "fnCronNextNoDay", unfollowed := true, recurses := true, apart := false, narrowed := true }
def FnCronNextNoDayUptoSaid : Prop := fnCronNextNoDayUptoRow.holds Try.pinned (OpenSpec.upto fnCronNextNoDaySpec)

/-- 'laws.FnCronWeekly', WHERE WHAT IT READS IS OF BULK AT MOST 1048576: true; the input reads as it did. -/
def fnCronWeeklyUptoRow : OpenClaim := { program := "ytfmagbkcfeckhaa", sum := "05f3aea3757b59c0b5fd8a5820af6329e14e08e616a0455a3f6e8a705567ed23", func := "pub-timebook/laws.FnCronWeekly", spec := "fnCronWeekly", unfollowed := true, recurses := true, apart := false, narrowed := true }
def FnCronWeeklyUptoSaid : Prop := fnCronWeeklyUptoRow.holds Try.pinned (OpenSpec.upto fnCronWeeklySpec)

end Rows
end Go.Proofs.Ytfmagbkcfeckhaa
