/- What the row's condition on the listed variables gives the walks: strconv's two errors. -/
import Derived.Test.YtomkhhpigpilfaaGreatDoorRows
import Derived.Test.YtomkhhpigpilfaaGreatDoorParT
import Derived.LaidLaws
import Derived.LaidSub
import Derived.KernelRfl
set_option linter.unusedVariables false
set_option linter.unusedSimpArgs false
namespace Go.Proofs.YtomkhhpigpilfaaGreatDoor
open Go.RowKit

theorem laid_cell {P : Program} {n nm : String} {d : DataW Unit} {ti : TypeId} {ms : Array (String × TypeId)} {g : Nat} {W : World} (hg : P.globalNamed n = some g) (ht : (P.globals[g]?).map (·.type) = some ti) (hi : P.underlying ti = some (.interface ms)) :
    ∀ {l : List (String × DataW Unit)} {ps : List MemPlace}, DataW.LaidVars P W l ps → (n, DataW.iface nm d) ∈ l → ∃ u v, W.cell? ⟨g, 0, none⟩ = some (.iface u v)
  | [], _, _, h => by cases h
  | (n', d') :: r, _, ⟨g', t', cs, fuel, p, q, h1, h2, h3, h4, hs, e⟩, h => by
    rcases List.mem_cons.1 h with h | h
    · injection h with e1 e2
      subst e1; subst e2
      obtain rfl := Option.some.inj (hg.symm.trans h1)
      obtain rfl := Option.some.inj (ht.symm.trans h2)
      obtain ⟨_, u, v, hc, _⟩ := iface_of_trod hi h4
      obtain ⟨l⟩ := cs
      simp only at hc
      subst hc
      exact ⟨u, v, by simpa using World.var?_cell hg h3 0⟩
    · exact laid_cell hg ht hi hs h

theorem vars_few {W : World} (h : laidMetH Tryz.prog Rows.fnCronFewerRow.laid W) : Vars W ∧ LocV W := by
  obtain ⟨⟨ps, h', _⟩, _⟩ := laidMetH_iff.1 h
  refine ⟨⟨?_, ?_⟩, ?_⟩
  · exact laid_cell (n := "strconv.ErrSyntax") (ti := 63) (by kernel_rfl) (by kernel_rfl) Tryz.underlying63 h' (List.mem_filter.2 ⟨.tail _ (.tail _ (.tail _ (.tail _ (.tail _ (.tail _ (.tail _ (.head _))))))), rfl⟩)
  · exact laid_cell (n := "strconv.ErrRange") (ti := 63) (by kernel_rfl) (by kernel_rfl) Tryz.underlying63 h' (List.mem_filter.2 ⟨.tail _ (.tail _ (.tail _ (.tail _ (.tail _ (.tail _ (.head _)))))), rfl⟩)
  · exact laid_cell (n := "pub-timebook/pub/gotime.errLocation") (ti := 63) (by kernel_rfl) (by kernel_rfl) Tryz.underlying63 h' (List.mem_filter.2 ⟨.tail _ (.tail _ (.tail _ (.tail _ (.tail _ (.head _))))), rfl⟩)
end Go.Proofs.YtomkhhpigpilfaaGreatDoor
