/-
  NARROWER THAN 'FOR EVERY INPUT', by the rows' own cells (each row's printed sentence says how): FnSetFindOf: laid.
  DERIVED. THE GIVEN ROWS OF THIS SEAT. 1 by the template 'for every input the law returns true; each argument reads behind the call as it read before'; 0 by the template 'total and deterministic' (their statements: YtekjeagcncfmmaaDoorTotals.lean).
  GIVEN WITH THE SEED: the statements are not yours to turn. If you find one false, say at which input.
  Laid BY PROGRAM, IN A SANDBOX (cutbox-rows.mjs): the forced cells as the released guide's own fill.sh prints them over the translation f413abce50b0cef8… (all of the seat's roots in one cut). By AI agents, Wed Nov 11 2026. No macro, syntax, notation, axiom, sorry.
-/
import Derived.Test.YtekjeagcncfmmaaDoorChecked
import GoSem.Claim
import GoSem.ClaimJoined
import GoSem.ClaimMapViews
import Derived.JoinedTies
import Derived.KernelRfl
namespace Go.Proofs.YtekjeagcncfmmaaDoor
/- THE CELL 'sum', in the pinned program and in every row, IS THE sha256 OF THE DUMP (.gsa) THAT YtekjeagcncfmmaaDoorProg.lean LOADS. Nothing in Lean hashes anything: it is a label: what it is worth is what the hold of that sum in a sandbox is worth. -/
noncomputable def Tryd.pinned : Pinned := { name := "ytekjeagcncfmmaadoor", sum := "f413abce50b0cef883c141132eaed009d06442774fdf09a24c8bde86e8431d6a", checked := Tryd.checked }
namespace Rows
def none {H : Type} : Left H := { results := [], args := [] }

/- WHAT THE LISTED PACKAGE-LEVEL VARIABLES READ AS WHEN THE CALL BEGINS. Each datum BY PROGRAM (the guide's laid-datum.mjs) off the statement by which the dump's own 'gosem.cut.vars' lays the variable. In a bare row this is a premise. The card (YtekjeagcncfmmaaDoorCards.lean) ties it to the program's text. -/
def laid_pub_timebook_pub_godigest_ErrDigestInvalidFormat {H : Type} : DataW H := .iface "*errors.errorString" (.ptr (.agg [.lit (.string [105, 110, 118, 97, 108, 105, 100, 32, 99, 104, 101, 99, 107, 115, 117, 109, 32, 100, 105, 103, 101, 115, 116, 32, 102, 111, 114, 109, 97, 116])]))
def laid_pub_timebook_pub_godigest_ErrDigestInvalidLength {H : Type} : DataW H := .iface "*errors.errorString" (.ptr (.agg [.lit (.string [105, 110, 118, 97, 108, 105, 100, 32, 99, 104, 101, 99, 107, 115, 117, 109, 32, 100, 105, 103, 101, 115, 116, 32, 108, 101, 110, 103, 116, 104])]))
def laid_pub_timebook_pub_godigest_ErrDigestUnsupported {H : Type} : DataW H := .iface "*errors.errorString" (.ptr (.agg [.lit (.string [117, 110, 115, 117, 112, 112, 111, 114, 116, 101, 100, 32, 100, 105, 103, 101, 115, 116, 32, 97, 108, 103, 111, 114, 105, 116, 104, 109])]))
def laid_pub_timebook_pub_digestset_ErrDigestNotFound {H : Type} : DataW H := .iface "*errors.errorString" (.ptr (.agg [.lit (.string [100, 105, 103, 101, 115, 116, 32, 110, 111, 116, 32, 102, 111, 117, 110, 100])]))
def laid_pub_timebook_pub_digestset_ErrDigestAmbiguous {H : Type} : DataW H := .iface "*errors.errorString" (.ptr (.agg [.lit (.string [97, 109, 98, 105, 103, 117, 111, 117, 115, 32, 100, 105, 103, 101, 115, 116, 32, 115, 116, 114, 105, 110, 103])]))

/-- 'laws.FnSetFindOf': WHATEVER THE INPUT: true; the input reads as it did. -/
def fnSetFindOfSpec : ChangeSpec := { name := "fnSetFindOf", fn := fun _ => fun
  | [d1, d2, d3] => { results := [.lit (.bool true)], args := [d1, d2, d3] }
  | _ => none }
def fnSetFindOfRow : OpenClaim := { program := "ytekjeagcncfmmaadoor", sum := "f413abce50b0cef883c141132eaed009d06442774fdf09a24c8bde86e8431d6a", func := "pub-timebook/laws.FnSetFindOf", spec := "fnSetFindOf", inPlace := ["(*sync.RWMutex).RLock", "internal/race.Read", "internal/race.Disable", "sync/atomic.AddInt32", "sync.runtime_SemacquireRWMutexR", "internal/race.Enable", "internal/race.Acquire", "(*sync.RWMutex).RUnlock", "internal/race.ReleaseMerge", "(*sync.RWMutex).rUnlockSlow", "sync.fatal", "sync.runtime_Semrelease", "internal/reflectlite.TypeOf"], unfollowed := true, recurses := true, named := ["pub-timebook/pub/digestset.ErrDigestNotFound", "pub-timebook/pub/godigest.ErrDigestInvalidFormat", "pub-timebook/pub/digestset.ErrDigestAmbiguous", "pub-timebook/pub/godigest.ErrDigestUnsupported", "pub-timebook/pub/godigest.ErrDigestInvalidLength"], apart := false, laid := [("pub-timebook/pub/godigest.ErrDigestInvalidFormat", laid_pub_timebook_pub_godigest_ErrDigestInvalidFormat), ("pub-timebook/pub/godigest.ErrDigestInvalidLength", laid_pub_timebook_pub_godigest_ErrDigestInvalidLength), ("pub-timebook/pub/godigest.ErrDigestUnsupported", laid_pub_timebook_pub_godigest_ErrDigestUnsupported), ("pub-timebook/pub/digestset.ErrDigestNotFound", laid_pub_timebook_pub_digestset_ErrDigestNotFound), ("pub-timebook/pub/digestset.ErrDigestAmbiguous", laid_pub_timebook_pub_digestset_ErrDigestAmbiguous)] }
def FnSetFindOfSaid : Prop := fnSetFindOfRow.holds Tryd.pinned (OpenSpec.ofChange fnSetFindOfSpec)

/-- ITS FALSE NEIGHBOUR: 'it returns false'. Refute it at one input. -/
def fnSetFindOfWrong : ChangeSpec := { name := "fnSetFindOf", fn := fun _ => fun
  | [d1, d2, d3] => { results := [.lit (.bool false)], args := [d1, d2, d3] }
  | _ => none }
def FnSetFindOfWrongFalsely : Prop := fnSetFindOfRow.holds Tryd.pinned (OpenSpec.ofChange fnSetFindOfWrong)

/- THE SECOND FORM. 'bulk': how many values and letters a reading holds, each counted each time it is reached (what is shared counts as often as it is met; a slice's spare places count too). A statement '..UptoSaid' is the law's where the arguments, and the package variables that the reading takes, are together of bulk at most 1048576: NARROWER than '..Said'. Prove '..Said' where nothing that the law and all that it calls make is longer than what came in: it says more and counts as full. Else prove '..UptoSaid'. A law counts once. -/
mutual
def uptoBulk {H : Type} : DataW H → Nat
  | .lit (.string bytes) => bytes.length + 1
  | .lit _ => 1
  | .nil => 1
  | .ptr d => uptoBulk d + 1
  | .slice elems spare => uptoBulkAll elems + uptoBulkAll spare + 1
  | .agg parts => uptoBulkAll parts + 1
  | .iface _ d => uptoBulk d + 1
  | .map entries => uptoBulkEntries entries + 1
  | .held _ => 1
def uptoBulkAll {H : Type} : List (DataW H) → Nat
  | [] => 0
  | d :: r => uptoBulk d + uptoBulkAll r
def uptoBulkEntries {H : Type} : List (Lit × DataW H) → Nat
  | [] => 0
  | x :: r => uptoBulkEntry x + uptoBulkEntries r
def uptoBulkEntry {H : Type} : Lit × DataW H → Nat
  | (.string bytes, d) => bytes.length + uptoBulk d + 1
  | (_, d) => uptoBulk d + 1
 end
def uptoSmall : (H : Type) → List (DataW H) → Bool := fun _ ds => decide (uptoBulkAll ds ≤ 1048576)
def OpenSpec.upto (s : _root_.Go.ChangeSpec) : _root_.Go.OpenSpec := { _root_.Go.OpenSpec.ofChange s with cond := some uptoSmall }

/-- 'laws.FnSetFindOf', WHERE WHAT IT READS IS OF BULK AT MOST 1048576: true; the input reads as it did. -/
def fnSetFindOfUptoRow : OpenClaim := { program := "ytekjeagcncfmmaadoor", sum := "f413abce50b0cef883c141132eaed009d06442774fdf09a24c8bde86e8431d6a", func := "pub-timebook/laws.FnSetFindOf", spec := "fnSetFindOf", inPlace := ["(*sync.RWMutex).RLock", "internal/race.Read", "internal/race.Disable", "sync/atomic.AddInt32", "sync.runtime_SemacquireRWMutexR", "internal/race.Enable", "internal/race.Acquire", "(*sync.RWMutex).RUnlock", "internal/race.ReleaseMerge", "(*sync.RWMutex).rUnlockSlow", "sync.fatal", "sync.runtime_Semrelease", "internal/reflectlite.TypeOf"], unfollowed := true, recurses := true, named := ["pub-timebook/pub/digestset.ErrDigestNotFound", "pub-timebook/pub/godigest.ErrDigestInvalidFormat", "pub-timebook/pub/digestset.ErrDigestAmbiguous", "pub-timebook/pub/godigest.ErrDigestUnsupported", "pub-timebook/pub/godigest.ErrDigestInvalidLength"], apart := false, laid := [("pub-timebook/pub/godigest.ErrDigestInvalidFormat", laid_pub_timebook_pub_godigest_ErrDigestInvalidFormat), ("pub-timebook/pub/godigest.ErrDigestInvalidLength", laid_pub_timebook_pub_godigest_ErrDigestInvalidLength), ("pub-timebook/pub/godigest.ErrDigestUnsupported", laid_pub_timebook_pub_godigest_ErrDigestUnsupported), ("pub-timebook/pub/digestset.ErrDigestNotFound", laid_pub_timebook_pub_digestset_ErrDigestNotFound), ("pub-timebook/pub/digestset.ErrDigestAmbiguous", laid_pub_timebook_pub_digestset_ErrDigestAmbiguous)], narrowed := true }
def FnSetFindOfUptoSaid : Prop := fnSetFindOfUptoRow.holds Tryd.pinned (OpenSpec.upto fnSetFindOfSpec)

end Rows
end Go.Proofs.YtekjeagcncfmmaaDoor
