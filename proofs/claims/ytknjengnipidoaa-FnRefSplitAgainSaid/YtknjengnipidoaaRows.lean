/-
  No cell of these rows narrows 'for every input' (looked for: loops, veiled, ifaces, maps, wideKeys, modest, calm, conditions, laid).
  DERIVED. THE GIVEN ROWS OF THIS SEAT. 5 by the template 'for every input the law returns true; each argument reads behind the call as it read before'; 0 by the template 'total and deterministic' (their statements: YtknjengnipidoaaTotals.lean).
  GIVEN WITH THE SEED: the statements are not yours to turn. If you find one false, say at which input.
  Laid BY PROGRAM, IN A SANDBOX (cutbox-rows.mjs): the forced cells as the released guide's own fill.sh prints them over the translation 483fc8034b13b3d8… (all of the seat's roots in one cut). By AI agents, Wed Nov 11 2026. No macro, syntax, notation, axiom, sorry.
-/
import Derived.Test.YtknjengnipidoaaChecked
import GoSem.Claim
import GoSem.ClaimJoined
import GoSem.ClaimMapViews
import Derived.JoinedTies
import Derived.KernelRfl
namespace Go.Proofs.Ytknjengnipidoaa
/- THE CELL 'sum', in the pinned program and in every row, IS THE sha256 OF THE DUMP (.gsa) THAT YtknjengnipidoaaProg.lean LOADS. Nothing in Lean hashes anything: it is a label: what it is worth is what the hold of that sum in a sandbox is worth. -/
noncomputable def Try.pinned : Pinned := { name := "ytknjengnipidoaa", sum := "483fc8034b13b3d89c634f52f6ed74296ab84b46145737eafb23d801422f7bc4", checked := Try.checked }
namespace Rows
def none {H : Type} : Left H := { results := [], args := [] }

/-- 'laws.FnCronEvery': WHATEVER THE INPUT: true; the input reads as it did. -/
def fnCronEverySpec : ChangeSpec := { name := "fnCronEvery", fn := fun _ => fun
  | [d] => { results := [.lit (.bool true)], args := [d] }
  | _ => none }
def fnCronEveryRow : OpenClaim := { program := "ytknjengnipidoaa", sum := "483fc8034b13b3d89c634f52f6ed74296ab84b46145737eafb23d801422f7bc4", func := "pub-timebook/laws.FnCronEvery", spec := "fnCronEvery", apart := false }
def FnCronEverySaid : Prop := fnCronEveryRow.holds Try.pinned (OpenSpec.ofChange fnCronEverySpec)

/-- ITS FALSE NEIGHBOUR: 'it returns false'. Refute it at one input. -/
def fnCronEveryWrong : ChangeSpec := { name := "fnCronEvery", fn := fun _ => fun
  | [d] => { results := [.lit (.bool false)], args := [d] }
  | _ => none }
def FnCronEveryWrongFalsely : Prop := fnCronEveryRow.holds Try.pinned (OpenSpec.ofChange fnCronEveryWrong)

/-- 'laws.FnCronBitsNext': WHATEVER THE INPUT: true; the input reads as it did. -/
def fnCronBitsNextSpec : ChangeSpec := { name := "fnCronBitsNext", fn := fun _ => fun
  | [d1, d2, d3] => { results := [.lit (.bool true)], args := [d1, d2, d3] }
  | _ => none }
def fnCronBitsNextRow : OpenClaim := { program := "ytknjengnipidoaa", sum := "483fc8034b13b3d89c634f52f6ed74296ab84b46145737eafb23d801422f7bc4", func := "pub-timebook/laws.FnCronBitsNext", spec := "fnCronBitsNext", apart := false }
def FnCronBitsNextSaid : Prop := fnCronBitsNextRow.holds Try.pinned (OpenSpec.ofChange fnCronBitsNextSpec)

/-- ITS FALSE NEIGHBOUR: 'it returns false'. Refute it at one input. -/
def fnCronBitsNextWrong : ChangeSpec := { name := "fnCronBitsNext", fn := fun _ => fun
  | [d1, d2, d3] => { results := [.lit (.bool false)], args := [d1, d2, d3] }
  | _ => none }
def FnCronBitsNextWrongFalsely : Prop := fnCronBitsNextRow.holds Try.pinned (OpenSpec.ofChange fnCronBitsNextWrong)

/-- 'laws.FnDigestParts': WHATEVER THE INPUT: true; the input reads as it did. -/
def fnDigestPartsSpec : ChangeSpec := { name := "fnDigestParts", fn := fun _ => fun
  | [d] => { results := [.lit (.bool true)], args := [d] }
  | _ => none }
def fnDigestPartsRow : OpenClaim := { program := "ytknjengnipidoaa", sum := "483fc8034b13b3d89c634f52f6ed74296ab84b46145737eafb23d801422f7bc4", func := "pub-timebook/laws.FnDigestParts", spec := "fnDigestParts", unfollowed := true, recurses := true, apart := false }
def FnDigestPartsSaid : Prop := fnDigestPartsRow.holds Try.pinned (OpenSpec.ofChange fnDigestPartsSpec)

/-- ITS FALSE NEIGHBOUR: 'it returns false'. Refute it at one input. -/
def fnDigestPartsWrong : ChangeSpec := { name := "fnDigestParts", fn := fun _ => fun
  | [d] => { results := [.lit (.bool false)], args := [d] }
  | _ => none }
def FnDigestPartsWrongFalsely : Prop := fnDigestPartsRow.holds Try.pinned (OpenSpec.ofChange fnDigestPartsWrong)

/-- 'laws.FnRefRank': WHATEVER THE INPUT: true; the input reads as it did. -/
def fnRefRankSpec : ChangeSpec := { name := "fnRefRank", fn := fun _ => fun
  | [d] => { results := [.lit (.bool true)], args := [d] }
  | _ => none }
def fnRefRankRow : OpenClaim := { program := "ytknjengnipidoaa", sum := "483fc8034b13b3d89c634f52f6ed74296ab84b46145737eafb23d801422f7bc4", func := "pub-timebook/laws.FnRefRank", spec := "fnRefRank", unfollowed := true, recurses := true, apart := false }
def FnRefRankSaid : Prop := fnRefRankRow.holds Try.pinned (OpenSpec.ofChange fnRefRankSpec)

/-- ITS FALSE NEIGHBOUR: 'it returns false'. Refute it at one input. -/
def fnRefRankWrong : ChangeSpec := { name := "fnRefRank", fn := fun _ => fun
  | [d] => { results := [.lit (.bool false)], args := [d] }
  | _ => none }
def FnRefRankWrongFalsely : Prop := fnRefRankRow.holds Try.pinned (OpenSpec.ofChange fnRefRankWrong)

/-- 'laws.FnRefSplitAgain': WHATEVER THE INPUT: true; the input reads as it did. -/
def fnRefSplitAgainSpec : ChangeSpec := { name := "fnRefSplitAgain", fn := fun _ => fun
  | [d] => { results := [.lit (.bool true)], args := [d] }
  | _ => none }
def fnRefSplitAgainRow : OpenClaim := { program := "ytknjengnipidoaa", sum := "483fc8034b13b3d89c634f52f6ed74296ab84b46145737eafb23d801422f7bc4", func := "pub-timebook/laws.FnRefSplitAgain", spec := "fnRefSplitAgain", apart := false }
def FnRefSplitAgainSaid : Prop := fnRefSplitAgainRow.holds Try.pinned (OpenSpec.ofChange fnRefSplitAgainSpec)

/-- ITS FALSE NEIGHBOUR: 'it returns false'. Refute it at one input. -/
def fnRefSplitAgainWrong : ChangeSpec := { name := "fnRefSplitAgain", fn := fun _ => fun
  | [d] => { results := [.lit (.bool false)], args := [d] }
  | _ => none }
def FnRefSplitAgainWrongFalsely : Prop := fnRefSplitAgainRow.holds Try.pinned (OpenSpec.ofChange fnRefSplitAgainWrong)

/- THE SECOND FORM. 'bulk': how many values and letters a reading holds, each counted each time it is reached (what is shared counts as often as it is met; a slice's spare places count too). A statement '..UptoSaid' is the law's where the arguments, and the package variables that the reading takes, are together of bulk at most 1048576: NARROWER than '..Said'. Prove '..Said' where nothing that the law and all that it calls make is longer than what came in: it says more and counts as full. Else prove '..UptoSaid'. A law counts once. -/
mutual
def uptoBulk {H : Type} : DataW H → Nat
  | .lit (.string bytes) => bytes.length + 1
  | .lit _ => 1
  | .nil => 1
  | .ptr d => uptoBulk d + 1
  | .slice elems spare => uptoBulkAll elems + uptoBulkAll spare + 1
  | .agg parts => uptoBulkAll parts + 1
  | .iface _ d => uptoBulk d + 1
  | .map entries => uptoBulkEntries entries + 1
  | .held _ => 1
def uptoBulkAll {H : Type} : List (DataW H) → Nat
  | [] => 0
  | d :: r => uptoBulk d + uptoBulkAll r
def uptoBulkEntries {H : Type} : List (Lit × DataW H) → Nat
  | [] => 0
  | x :: r => uptoBulkEntry x + uptoBulkEntries r
def uptoBulkEntry {H : Type} : Lit × DataW H → Nat
  | (.string bytes, d) => bytes.length + uptoBulk d + 1
  | (_, d) => uptoBulk d + 1
 end
def uptoSmall : (H : Type) → List (DataW H) → Bool := fun _ ds => decide (uptoBulkAll ds ≤ 1048576)
def OpenSpec.upto (s : _root_.Go.ChangeSpec) : _root_.Go.OpenSpec := { _root_.Go.OpenSpec.ofChange s with cond := some uptoSmall }

/-- 'laws.FnCronEvery', WHERE WHAT IT READS IS OF BULK AT MOST 1048576: true; the input reads as it did. -/
def fnCronEveryUptoRow : OpenClaim := { program := "ytknjengnipidoaa", sum := "483fc8034b13b3d89c634f52f6ed74296ab84b46145737eafb23d801422f7bc4", func := "pub-timebook/laws.FnCronEvery", spec := "fnCronEvery", apart := false, narrowed := true }
def FnCronEveryUptoSaid : Prop := fnCronEveryUptoRow.holds Try.pinned (OpenSpec.upto fnCronEverySpec)

/-- 'laws.FnCronBitsNext', WHERE WHAT IT READS IS OF BULK AT MOST 1048576: true; the input reads as it did. -/
def fnCronBitsNextUptoRow : OpenClaim := { program := "ytknjengnipidoaa", sum := "483fc8034b13b3d89c634f52f6ed74296ab84b46145737eafb23d801422f7bc4", func := "pub-timebook/laws.FnCronBitsNext", spec := "fnCronBitsNext", apart := false, narrowed := true }
def FnCronBitsNextUptoSaid : Prop := fnCronBitsNextUptoRow.holds Try.pinned (OpenSpec.upto fnCronBitsNextSpec)

/-- 'laws.FnDigestParts', WHERE WHAT IT READS IS OF BULK AT MOST 1048576: true; the input reads as it did. -/
def fnDigestPartsUptoRow : OpenClaim := { program := "ytknjengnipidoaa", sum := "483fc8034b13b3d89c634f52f6ed74296ab84b46145737eafb23d801422f7bc4", func := "pub-timebook/laws.FnDigestParts", spec := "fnDigestParts", unfollowed := true, recurses := true, apart := false, narrowed := true }
def FnDigestPartsUptoSaid : Prop := fnDigestPartsUptoRow.holds Try.pinned (OpenSpec.upto fnDigestPartsSpec)

/-- 'laws.FnRefRank', WHERE WHAT IT READS IS OF BULK AT MOST 1048576: true; the input reads as it did. -/
def fnRefRankUptoRow : OpenClaim := { program := "ytknjengnipidoaa", sum := "483fc8034b13b3d89c634f52f6ed74296ab84b46145737eafb23d801422f7bc4", func := "pub-timebook/laws.FnRefRank", spec := "fnRefRank", unfollowed := true, recurses := true, apart := false, narrowed := true }
def FnRefRankUptoSaid : Prop := fnRefRankUptoRow.holds Try.pinned (OpenSpec.upto fnRefRankSpec)

/-- 'laws.FnRefSplitAgain', WHERE WHAT IT READS IS OF BULK AT MOST 1048576: true; the input reads as it did. -/
def fnRefSplitAgainUptoRow : OpenClaim := { program := "ytknjengnipidoaa", sum := "483fc8034b13b3d89c634f52f6ed74296ab84b46145737eafb23d801422f7bc4", func := "pub-timebook/laws.FnRefSplitAgain", spec := "fnRefSplitAgain", apart := false, narrowed := true }
def FnRefSplitAgainUptoSaid : Prop := fnRefSplitAgainUptoRow.holds Try.pinned (OpenSpec.upto fnRefSplitAgainSpec)

end Rows
end Go.Proofs.Ytknjengnipidoaa
