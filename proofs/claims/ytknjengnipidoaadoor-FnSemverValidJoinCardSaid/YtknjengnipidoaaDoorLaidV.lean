/- What the rows' conditions on the listed variables give the walks. -/
import Derived.Test.YtknjengnipidoaaDoorRows
import Derived.Test.YtknjengnipidoaaDoorValid
import Derived.LaidLaws
import Derived.LaidSub
import Derived.KernelRfl
set_option linter.unusedVariables false
set_option linter.unusedSimpArgs false
namespace Go.Proofs.YtknjengnipidoaaDoor
open Go.RowKit

theorem laid_cell {P : Program} {n nm : String} {d : DataW Unit} {ti : TypeId} {ms : Array (String × TypeId)} {g : Nat} {W : World} (hg : P.globalNamed n = some g) (ht : (P.globals[g]?).map (·.type) = some ti) (hi : P.underlying ti = some (.interface ms)) :
    ∀ {l : List (String × DataW Unit)} {ps : List MemPlace}, DataW.LaidVars P W l ps → (n, DataW.iface nm d) ∈ l → ∃ u v, W.cell? ⟨g, 0, none⟩ = some (.iface u v)
  | [], _, _, h => by cases h
  | (n', d') :: r, _, ⟨g', t', cs, fuel, p, q, h1, h2, h3, h4, hs, e⟩, h => by
    rcases List.mem_cons.1 h with h | h
    · injection h with e1 e2
      subst e1; subst e2
      obtain rfl := Option.some.inj (hg.symm.trans h1)
      obtain rfl := Option.some.inj (ht.symm.trans h2)
      obtain ⟨_, u, v, hc, _⟩ := iface_of_trod hi h4
      obtain ⟨l⟩ := cs
      simp only at hc
      subst hc
      exact ⟨u, v, by simpa using World.var?_cell hg h3 0⟩
    · exact laid_cell hg ht hi hs h

theorem vars_pre {W : World} (h : laidMetH Tryd.prog Rows.fnSemverValidPreRow.laid W) : Vars W := by
  obtain ⟨⟨ps, h', _⟩, _⟩ := laidMetH_iff.1 h
  refine ⟨?_, ?_⟩
  · exact laid_cell (n := "pub-timebook/pub/semver.ErrInvalidPrerelease") (ti := 34) (by kernel_rfl) (by kernel_rfl) Tryd.underlying34 h' (List.mem_filter.2 ⟨.tail _ (.head _), rfl⟩)
  · exact laid_cell (n := "pub-timebook/pub/semver.ErrSegmentStartsZero") (ti := 34) (by kernel_rfl) (by kernel_rfl) Tryd.underlying34 h' (List.mem_filter.2 ⟨.head _, rfl⟩)
theorem vars_join {W : World} (h : laidMetH Tryd.prog Rows.fnSemverValidJoinRow.laid W) : Vars W ∧ VarsM W := by
  obtain ⟨⟨ps, h', _⟩, _⟩ := laidMetH_iff.1 h
  refine ⟨⟨?_, ?_⟩, ?_⟩
  · exact laid_cell (n := "pub-timebook/pub/semver.ErrInvalidPrerelease") (ti := 34) (by kernel_rfl) (by kernel_rfl) Tryd.underlying34 h' (List.mem_filter.2 ⟨.tail _ (.tail _ (.head _)), rfl⟩)
  · exact laid_cell (n := "pub-timebook/pub/semver.ErrSegmentStartsZero") (ti := 34) (by kernel_rfl) (by kernel_rfl) Tryd.underlying34 h' (List.mem_filter.2 ⟨.head _, rfl⟩)
  · exact laid_cell (n := "pub-timebook/pub/semver.ErrInvalidMetadata") (ti := 34) (by kernel_rfl) (by kernel_rfl) Tryd.underlying34 h' (List.mem_filter.2 ⟨.tail _ (.head _), rfl⟩)
end Go.Proofs.YtknjengnipidoaaDoor
