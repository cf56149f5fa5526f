/- A reference of a path alone: what it is, its familiar name and text. Walked. -/
import Derived.Test.YtjddckigiinjgaaDoorMatA
import Derived.Stop.Asserts
import Derived.Laws.Strings2
import Derived.Laws.Strings3
set_option linter.unusedVariables false
set_option linter.unusedSimpArgs false
namespace Go.Proofs.YtjddckigiinjgaaDoor
open Go.RowKit

theorem repo_name (x : Value) (w : World) : (invoke (.fn (.method "Name") #[]) #[.iface 49 x]).run Tryd.prog w = .ok (.enter 39 #[x]) w := by kernel_rfl
theorem repo_string (x : Value) (w : World) : (invoke (.fn (.method "String") #[]) #[.iface 49 x]).run Tryd.prog w = .ok (.enter 40 #[x]) w := by kernel_rfl
theorem repo_familiar (x : Value) (w : World) : (invoke (.fn (.method "Familiar") #[]) #[.iface 49 x]).run Tryd.prog w = .ok (.enter 38 #[x]) w := by kernel_rfl
theorem repo_domain (x : Value) (w : World) : (invoke (.fn (.method "Domain") #[]) #[.iface 49 x]).run Tryd.prog w = .ok (.enter 37 #[x]) w := by kernel_rfl
theorem repo_path (x : Value) (w : World) : (invoke (.fn (.method "Path") #[]) #[.iface 49 x]).run Tryd.prog w = .ok (.enter 59 #[x]) w := by kernel_rfl
theorem as_repo_named (v : Value) (xT : TypeId) (w : World) : (Instr.typeAssert (.iface 49 v) xT 44 true).run Tryd.prog w = .ok (.tuple #[.iface 49 v, .bool true]) w := run_typeAssert_hasB Tryd.underlying44 (by kernel_rfl) v xT w
theorem as_repo_normal (v : Value) (xT : TypeId) (w : World) : (Instr.typeAssert (.iface 49 v) xT 60 true).run Tryd.prog w = .ok (.tuple #[.iface 49 v, .bool true]) w := run_typeAssert_hasB Tryd.underlying60 (by kernel_rfl) v xT w

set_option maxRecDepth 100000 in
theorem ref_any (d p t g : ByteArray) (w : World) (hp : p.toList.isEmpty = false) (hd : d.toList.isEmpty = true) (ht : t.toList.isEmpty = true) (hg : g.toList.isEmpty = true) : Calls Tryd.prog 9 #[.agg #[.string d, .string p, .string t, .string g]] w fun e w' => e = .returned (.iface 49 (.agg #[.string d, .string p])) ∧ Below w.heap.size w w' := by
  have h1 := repo_name
  go_enter Tryd.func9, Tryd.ntmps9
  go_wp2
  go_ret
  exact ⟨rfl, by go_grown⟩
set_option maxRecDepth 100000 in
theorem famString_any (d p : ByteArray) (w : World) (hp : p.toList.isEmpty = false) (hd : d.toList.isEmpty = true) (hn : (d.toList == [100, 111, 99, 107, 101, 114, 46, 105, 111]) = false) : Calls Tryd.prog 13 #[.iface 49 (.agg #[.string d, .string p])] w fun e w' => e = .returned (.string p) ∧ Below w.heap.size w w' := by
  have h1 := repo_name
  have h2 := repo_string
  have h3 := repo_familiar
  have h4 := repo_domain
  have h5 := repo_path
  have h6 := as_repo_normal
  go_enter Tryd.func13, Tryd.ntmps13
  go_wp2
  go_ret
  exact ⟨rfl, by go_grown⟩
set_option maxRecDepth 100000 in
theorem famName_any (d p : ByteArray) (w : World) (hp : p.toList.isEmpty = false) (hd : d.toList.isEmpty = true) (hn : (d.toList == [100, 111, 99, 107, 101, 114, 46, 105, 111]) = false) : Calls Tryd.prog 14 #[.iface 49 (.agg #[.string d, .string p])] w fun e w' => e = .returned (.string p) ∧ Below w.heap.size w w' := by
  have h1 := repo_name
  have h2 := repo_string
  have h3 := repo_familiar
  have h4 := repo_domain
  have h5 := repo_path
  have h6 := as_repo_normal
  go_enter Tryd.func14, Tryd.ntmps14
  go_wp2
  go_ret
  exact ⟨rfl, by go_grown⟩
end Go.Proofs.YtjddckigiinjgaaDoor
