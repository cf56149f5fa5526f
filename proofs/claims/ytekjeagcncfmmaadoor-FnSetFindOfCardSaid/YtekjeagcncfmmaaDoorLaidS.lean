/- What the row's condition on the listed sentinels gives the walk. -/
import Derived.Test.YtekjeagcncfmmaaDoorRows
import Derived.Test.YtekjeagcncfmmaaDoorFindD
import Derived.LaidLaws
import Derived.LaidSub
import Derived.KernelRfl
set_option linter.unusedVariables false
set_option linter.unusedSimpArgs false
namespace Go.Proofs.YtekjeagcncfmmaaDoor
open Go.RowKit

theorem star_err : "*" ++ "errors.errorString" = "*errors.errorString" := by decide
theorem row_err (u : TypeId) (h : Tryd.prog.typeName? 3 u = some "*errors.errorString") : u = 163 :=
  typeName_ptr_named (nm := "errors.errorString") (by rw [star_err]; kernel_rfl) (by kernel_rfl) (by decide) u (by rw [star_err]; exact h)

set_option maxRecDepth 100000 in
theorem laid_sent {n : String} {text : List UInt8} {g : Nat} {W : World} (hg : Tryd.prog.globalNamed n = some g) (ht : (Tryd.prog.globals[g]?).map (·.type) = some 31) :
    ∀ {l : List (String × DataW Unit)} {ps : List MemPlace}, DataW.LaidVars Tryd.prog W l ps →
      (∀ b off, MemPlace.cell b off ∈ ps → (∃ c t, W.heap[b]? = some (.cells c t (0, 0))) ∧ ∀ u v, W.cell? ⟨b, off, none⟩ = some (.iface u v) → Value.okWide Tryd.prog W .any 0 u v) →
      (n, DataW.iface "*errors.errorString" (.ptr (.agg [.lit (.string text)]))) ∈ l → ∃ a, Sent W g a text
  | [], _, _, _, h => by cases h
  | (n', d') :: r, _, ⟨g', t', cs, fuel, p, q, h1, h2, h3, h4, hs, e⟩, hr, h => by
    subst e
    rcases List.mem_cons.1 h with h | h
    · injection h with e1 e2
      subst e1; subst e2
      obtain rfl := Option.some.inj (hg.symm.trans h1)
      obtain rfl := Option.some.inj (ht.symm.trans h2)
      obtain ⟨l⟩ := cs
      have ok : ∀ u v, l = [.iface u v] → Value.okWide Tryd.prog W .any 0 u v := fun u v e => by
        subst e
        exact (hr g 0 (by simp [MemPlace.row])).2 u v (by simpa using World.var?_cell hg h3 0)
      obtain ⟨a, s, rfl, hc, hx, hz, rfl⟩ := errorString_of_trod Tryd.underlying31 row_err Tryd.underlying163 Tryd.underlying196 rfl rfl Tryd.underlying9 (by kernel_rfl) (by kernel_rfl) h4 ok
      obtain ⟨c, t, hb⟩ := (hr a.block a.off (by simp [MemPlace.row])).1
      exact ⟨a, by simpa using World.var?_cell hg h3 0, ⟨s, hc, hx⟩, c, t, hb⟩
    · exact laid_sent hg ht hs (fun b off hb => hr b off (by simp [hb])) h

theorem vars_find {W : World} (h : laidMetH Tryd.prog Rows.fnSetFindOfRow.laid W) : ∃ aF aN aA, Vars W aF aN aA := by
  obtain ⟨⟨ps, h', _, hr⟩, _⟩ := laidMetH_iff.1 h
  obtain ⟨aF, hF⟩ := laid_sent (n := "pub-timebook/pub/godigest.ErrDigestInvalidFormat") (text := txtF) (by kernel_rfl) (by kernel_rfl) h' hr (List.mem_filter.2 ⟨.head _, rfl⟩)
  obtain ⟨aN, hN⟩ := laid_sent (n := "pub-timebook/pub/digestset.ErrDigestNotFound") (text := txtN) (by kernel_rfl) (by kernel_rfl) h' hr (List.mem_filter.2 ⟨.tail _ (.tail _ (.tail _ (.head _))), rfl⟩)
  obtain ⟨aA, hA⟩ := laid_sent (n := "pub-timebook/pub/digestset.ErrDigestAmbiguous") (text := txtA) (by kernel_rfl) (by kernel_rfl) h' hr (List.mem_filter.2 ⟨.tail _ (.tail _ (.tail _ (.tail _ (.head _)))), rfl⟩)
  exact ⟨aF, aN, aA, hF, hN, hA⟩
end Go.Proofs.YtekjeagcncfmmaaDoor
