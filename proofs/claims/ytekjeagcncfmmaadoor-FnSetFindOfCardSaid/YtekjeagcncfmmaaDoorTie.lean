/-
  DERIVED. GIVEN WITH THE SEED: THE PROGRAM's TIES (one call each: nine closed facts by the kernel) AND EACH ROW's TIE, after the 31st guide's Derived/Test/Toyas{Tie, Card}.lean. No idea stands in it: it is a product of the set-up. Laid BY PROGRAM, IN A SANDBOX (cutbox-door.mjs). By AI agents, Wed Nov 11 2026. No macro, syntax, notation, axiom, sorry.
-/
import Derived.Test.YtekjeagcncfmmaaDoorRows
import Derived.LaidByTextLater
import Derived.SevenTiedAt
import Derived.LaidSub
import Derived.LaidOnce
namespace Go.Proofs.YtekjeagcncfmmaaDoor
open Go
set_option maxRecDepth 100000
theorem seatTie1 : Tryd.prog.laidByTextLater [("pub-timebook/pub/godigest.ErrDigestInvalidFormat", Rows.laid_pub_timebook_pub_godigest_ErrDigestInvalidFormat), ("pub-timebook/pub/godigest.ErrDigestInvalidLength", Rows.laid_pub_timebook_pub_godigest_ErrDigestInvalidLength), ("pub-timebook/pub/godigest.ErrDigestUnsupported", Rows.laid_pub_timebook_pub_godigest_ErrDigestUnsupported), ("pub-timebook/pub/digestset.ErrDigestNotFound", Rows.laid_pub_timebook_pub_digestset_ErrDigestNotFound), ("pub-timebook/pub/digestset.ErrDigestAmbiguous", Rows.laid_pub_timebook_pub_digestset_ErrDigestAmbiguous)] [.sentinel, .sentinel, .sentinel, .sentinel, .sentinel] true :=
  Program.laidByTextLater_by_one 114 8 33 (by kernel_rfl) (by kernel_rfl) (by kernel_rfl) (by kernel_rfl) (by kernel_rfl) (by kernel_rfl) (fun _ _ => by kernel_rfl)
theorem noOwnUnsafe : Tryd.pinned.checked.prog.headLifts.contains "ownunsafe" = false := by kernel_rfl
theorem tie : Tryd.prog.laidByTextLater [("pub-timebook/pub/godigest.ErrDigestInvalidFormat", Rows.laid_pub_timebook_pub_godigest_ErrDigestInvalidFormat), ("pub-timebook/pub/godigest.ErrDigestInvalidLength", Rows.laid_pub_timebook_pub_godigest_ErrDigestInvalidLength), ("pub-timebook/pub/godigest.ErrDigestUnsupported", Rows.laid_pub_timebook_pub_godigest_ErrDigestUnsupported), ("pub-timebook/pub/digestset.ErrDigestNotFound", Rows.laid_pub_timebook_pub_digestset_ErrDigestNotFound), ("pub-timebook/pub/digestset.ErrDigestAmbiguous", Rows.laid_pub_timebook_pub_digestset_ErrDigestAmbiguous)] [.sentinel, .sentinel, .sentinel, .sentinel, .sentinel] true :=
  Program.laidByTextLater.sub seatTie1 ["pub-timebook/pub/godigest.ErrDigestInvalidFormat", "pub-timebook/pub/godigest.ErrDigestInvalidLength", "pub-timebook/pub/godigest.ErrDigestUnsupported", "pub-timebook/pub/digestset.ErrDigestNotFound", "pub-timebook/pub/digestset.ErrDigestAmbiguous"] (by kernel_rfl) (by kernel_rfl)
theorem fnSetFindOf_row_tie : Rows.fnSetFindOfRow.laidByTextAt .later Tryd.pinned [.sentinel, .sentinel, .sentinel, .sentinel, .sentinel] true :=
  OpenClaim.laidByTextAt_later rfl rfl tie noOwnUnsafe
theorem fnSetFindOfUpto_row_tie : Rows.fnSetFindOfUptoRow.laidByTextAt .later Tryd.pinned [.sentinel, .sentinel, .sentinel, .sentinel, .sentinel] true :=
  OpenClaim.laidByTextAt_later rfl rfl tie noOwnUnsafe
end Go.Proofs.YtekjeagcncfmmaaDoor
