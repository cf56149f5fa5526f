/- What the rows' condition on the listed tables gives the walks: the powers of ten. -/
import Derived.Test.YtjbafphoemibaaaGreatDoorRows
import Derived.Test.YtjbafphoemibaaaGreatDoorNum
import Derived.LaidLaws
import Derived.LaidSub
import Derived.Lib.LaidTab
import Derived.KernelRfl
set_option linter.unusedVariables false
set_option linter.unusedSimpArgs false
namespace Go.Proofs.YtjbafphoemibaaaGreatDoor
open Go.RowKit

theorem laid_tab {P : Program} {n : String} {k : IntKind} {zs : List Int} {g : Nat} {t e : TypeId} {z : Nat} {W : World} (hg : P.globalNamed n = some g) (hty : (P.globals[g]?).map (·.type) = some t)
    (ht : P.underlying t = some (.array z e)) (he : P.underlying e = some (.int k)) (hce : P.cellsOf e = 1) (hct : P.cellsOf t = z) :
    ∀ {l : List (String × DataW Unit)} {ps : List MemPlace}, DataW.LaidVars P W l ps → (n, Lib.tabData k zs) ∈ l → Lib.TabIs P W n k zs
  | [], _, _, h => by cases h
  | (n', d') :: r, _, ⟨g', t', cs, fuel, p, q, h1, h2, h3, h4, hs, eq⟩, h => by
    rcases List.mem_cons.1 h with h | h
    · injection h with e1 e2
      subst e1; subst e2
      obtain rfl := Option.some.inj (hg.symm.trans h1)
      obtain rfl := Option.some.inj (hty.symm.trans h2)
      unfold Lib.TabIs
      rw [h3, ← Lib.cells_of_tab ht he hce hct h4]
    · exact laid_tab hg hty ht he hce hct hs h

theorem vars_tab {W : World} (h : laidMetH Tryz.prog Rows.fnCronEachMinutesRow.laid W) : Tab W := by
  obtain ⟨⟨ps, h', _⟩, _⟩ := laidMetH_iff.1 h
  exact Lib.tabBelow_of_tabIs (laid_tab (n := "internal/strconv.uint64pow10") (g := 1) (t := 131) (e := 25) (by kernel_rfl) (by kernel_rfl) Tryz.underlying131 Tryz.underlying25 (by kernel_rfl) (by kernel_rfl) h' (List.mem_filter.2 ⟨.tail _ (.tail _ (.head _)), rfl⟩))
end Go.Proofs.YtjbafphoemibaaaGreatDoor
