/- The inner rank of a reference: what the constructor makes of the four parts, and what the assertions find. Walked, one theorem for each make. -/
import Derived.Test.YtknjengnipidoaaKit
import Derived.Test.YtknjengnipidoaaStrP
import Derived.Stop.Asserts
import Derived.IntWalk
import Derived.Laws.Strings2
import Derived.Laws.Strings3
set_option linter.unusedVariables false
set_option linter.unusedSimpArgs false
namespace Go.Proofs.Ytknjengnipidoaa
open Go.RowKit

theorem rank_name (x : Value) (w : World) : (invoke (.fn (.method "Name") #[]) #[.iface 59 x]).run Try.prog w = .ok (.enter 63 #[x]) w := by kernel_rfl
theorem as_repo_named (v : Value) (xT : TypeId) (w : World) : (Instr.typeAssert (.iface 59 v) xT 65 true).run Try.prog w = .ok (.tuple #[.iface 59 v, .bool true]) w := run_typeAssert_hasB Try.underlying65 (by kernel_rfl) v xT w
theorem as_repo_tagged (v : Value) (xT : TypeId) (w : World) : (Instr.typeAssert (.iface 59 v) xT 68 true).run Try.prog w = .ok (.tuple #[.nilIface, .bool false]) w := run_typeAssert_lacksB Try.underlying68 (by kernel_rfl) (by kernel_rfl) v xT w
theorem as_repo_digested (v : Value) (xT : TypeId) (w : World) : (Instr.typeAssert (.iface 59 v) xT 71 true).run Try.prog w = .ok (.tuple #[.nilIface, .bool false]) w := run_typeAssert_lacksB Try.underlying71 (by kernel_rfl) (by kernel_rfl) v xT w
theorem as_dig_named (v : Value) (xT : TypeId) (w : World) : (Instr.typeAssert (.iface 77 v) xT 65 true).run Try.prog w = .ok (.tuple #[.nilIface, .bool false]) w := run_typeAssert_lacksB Try.underlying65 (by kernel_rfl) (by kernel_rfl) v xT w
theorem as_dig_tagged (v : Value) (xT : TypeId) (w : World) : (Instr.typeAssert (.iface 77 v) xT 68 true).run Try.prog w = .ok (.tuple #[.nilIface, .bool false]) w := run_typeAssert_lacksB Try.underlying68 (by kernel_rfl) (by kernel_rfl) v xT w
theorem as_dig_digested (v : Value) (xT : TypeId) (w : World) : (Instr.typeAssert (.iface 77 v) xT 71 true).run Try.prog w = .ok (.tuple #[.iface 77 v, .bool true]) w := run_typeAssert_hasB Try.underlying71 (by kernel_rfl) v xT w
theorem as_can_named (v : Value) (xT : TypeId) (w : World) : (Instr.typeAssert (.iface 79 v) xT 65 true).run Try.prog w = .ok (.tuple #[.iface 79 v, .bool true]) w := run_typeAssert_hasB Try.underlying65 (by kernel_rfl) v xT w
theorem as_can_tagged (v : Value) (xT : TypeId) (w : World) : (Instr.typeAssert (.iface 79 v) xT 68 true).run Try.prog w = .ok (.tuple #[.nilIface, .bool false]) w := run_typeAssert_lacksB Try.underlying68 (by kernel_rfl) (by kernel_rfl) v xT w
theorem as_can_digested (v : Value) (xT : TypeId) (w : World) : (Instr.typeAssert (.iface 79 v) xT 71 true).run Try.prog w = .ok (.tuple #[.iface 79 v, .bool true]) w := run_typeAssert_hasB Try.underlying71 (by kernel_rfl) v xT w
theorem as_tag_named (v : Value) (xT : TypeId) (w : World) : (Instr.typeAssert (.iface 81 v) xT 65 true).run Try.prog w = .ok (.tuple #[.iface 81 v, .bool true]) w := run_typeAssert_hasB Try.underlying65 (by kernel_rfl) v xT w
theorem as_tag_tagged (v : Value) (xT : TypeId) (w : World) : (Instr.typeAssert (.iface 81 v) xT 68 true).run Try.prog w = .ok (.tuple #[.iface 81 v, .bool true]) w := run_typeAssert_hasB Try.underlying68 (by kernel_rfl) v xT w
theorem as_tag_digested (v : Value) (xT : TypeId) (w : World) : (Instr.typeAssert (.iface 81 v) xT 71 true).run Try.prog w = .ok (.tuple #[.nilIface, .bool false]) w := run_typeAssert_lacksB Try.underlying71 (by kernel_rfl) (by kernel_rfl) v xT w
theorem as_all_named (v : Value) (xT : TypeId) (w : World) : (Instr.typeAssert (.iface 63 v) xT 65 true).run Try.prog w = .ok (.tuple #[.iface 63 v, .bool true]) w := run_typeAssert_hasB Try.underlying65 (by kernel_rfl) v xT w
theorem as_all_tagged (v : Value) (xT : TypeId) (w : World) : (Instr.typeAssert (.iface 63 v) xT 68 true).run Try.prog w = .ok (.tuple #[.iface 63 v, .bool true]) w := run_typeAssert_hasB Try.underlying68 (by kernel_rfl) v xT w
theorem as_all_digested (v : Value) (xT : TypeId) (w : World) : (Instr.typeAssert (.iface 63 v) xT 71 true).run Try.prog w = .ok (.tuple #[.iface 63 v, .bool true]) w := run_typeAssert_hasB Try.underlying71 (by kernel_rfl) v xT w

theorem not_nil (x : ByteArray) (y : ByteArray) : (x ++ ⟨#[47]⟩ ++ y).toList.isEmpty = false := by
  rw [app_list, app_list]; simp [ByteArray.toList_eq]

set_option maxRecDepth 100000 in
theorem rank_dig (d p t g : ByteArray) (w : World) (hp : p.toList.isEmpty = true) (hd : d.toList.isEmpty = true) (hg : g.toList.isEmpty = false) : Calls Try.prog 17 #[.agg #[.string d, .string p, .string t, .string g]] w fun e w' => e = .returned (.int .i64 5) ∧ Below w.heap.size w w' := by
  have hn := rank_name
  have ha0 := as_dig_named
  go_enter Try.func17, Try.ntmps17
  go_wp2
  go_ret
  exact ⟨rfl, by go_grown⟩

set_option maxRecDepth 100000 in
theorem rank_cann (d p t g : ByteArray) (w : World) (hp : p.toList.isEmpty = false) (hd : d.toList.isEmpty = true) (ht : t.toList.isEmpty = true) (hg : g.toList.isEmpty = false) : Calls Try.prog 17 #[.agg #[.string d, .string p, .string t, .string g]] w fun e w' => e = .returned (.int .i64 3) ∧ Below w.heap.size w w' := by
  have hn := rank_name
  have ha0 := as_can_named
  have ha1 := as_can_tagged
  have ha2 := as_can_digested
  go_enter Try.func17, Try.ntmps17
  go_wp2
  go_ret
  exact ⟨rfl, by go_grown⟩

set_option maxRecDepth 100000 in
theorem rank_cand (d p t g : ByteArray) (w : World) (hp : p.toList.isEmpty = false) (hd : d.toList.isEmpty = false) (c1 : ¬ 9223372036854775807 < d.size + 1) (c2 : ¬ 9223372036854775807 < d.size + 1 + p.size) (ht : t.toList.isEmpty = true) (hg : g.toList.isEmpty = false) : Calls Try.prog 17 #[.agg #[.string d, .string p, .string t, .string g]] w fun e w' => e = .returned (.int .i64 3) ∧ Below w.heap.size w w' := by
  have hn := rank_name
  have ha0 := as_can_named
  have ha1 := as_can_tagged
  have ha2 := as_can_digested
  have hz := not_nil d p
  go_enter Try.func17, Try.ntmps17
  go_wp2
  go_ret
  exact ⟨rfl, by go_grown⟩

set_option maxRecDepth 100000 in
theorem rank_repon (d p t g : ByteArray) (w : World) (hp : p.toList.isEmpty = false) (hd : d.toList.isEmpty = true) (ht : t.toList.isEmpty = true) (hg : g.toList.isEmpty = true) : Calls Try.prog 17 #[.agg #[.string d, .string p, .string t, .string g]] w fun e w' => e = .returned (.int .i64 4) ∧ Below w.heap.size w w' := by
  have hn := rank_name
  have ha0 := as_repo_named
  have ha1 := as_repo_tagged
  have ha2 := as_repo_digested
  go_enter Try.func17, Try.ntmps17
  go_wp2
  go_ret
  exact ⟨rfl, by go_grown⟩

set_option maxRecDepth 100000 in
theorem rank_repod (d p t g : ByteArray) (w : World) (hp : p.toList.isEmpty = false) (hd : d.toList.isEmpty = false) (c1 : ¬ 9223372036854775807 < d.size + 1) (c2 : ¬ 9223372036854775807 < d.size + 1 + p.size) (ht : t.toList.isEmpty = true) (hg : g.toList.isEmpty = true) : Calls Try.prog 17 #[.agg #[.string d, .string p, .string t, .string g]] w fun e w' => e = .returned (.int .i64 4) ∧ Below w.heap.size w w' := by
  have hn := rank_name
  have ha0 := as_repo_named
  have ha1 := as_repo_tagged
  have ha2 := as_repo_digested
  have hz := not_nil d p
  go_enter Try.func17, Try.ntmps17
  go_wp2
  go_ret
  exact ⟨rfl, by go_grown⟩

set_option maxRecDepth 100000 in
theorem rank_tagn (d p t g : ByteArray) (w : World) (hp : p.toList.isEmpty = false) (hd : d.toList.isEmpty = true) (ht : t.toList.isEmpty = false) (hg : g.toList.isEmpty = true) : Calls Try.prog 17 #[.agg #[.string d, .string p, .string t, .string g]] w fun e w' => e = .returned (.int .i64 2) ∧ Below w.heap.size w w' := by
  have hn := rank_name
  have ha0 := as_tag_named
  have ha1 := as_tag_tagged
  have ha2 := as_tag_digested
  go_enter Try.func17, Try.ntmps17
  go_wp2
  go_ret
  exact ⟨rfl, by go_grown⟩

set_option maxRecDepth 100000 in
theorem rank_tagd (d p t g : ByteArray) (w : World) (hp : p.toList.isEmpty = false) (hd : d.toList.isEmpty = false) (c1 : ¬ 9223372036854775807 < d.size + 1) (c2 : ¬ 9223372036854775807 < d.size + 1 + p.size) (ht : t.toList.isEmpty = false) (hg : g.toList.isEmpty = true) : Calls Try.prog 17 #[.agg #[.string d, .string p, .string t, .string g]] w fun e w' => e = .returned (.int .i64 2) ∧ Below w.heap.size w w' := by
  have hn := rank_name
  have ha0 := as_tag_named
  have ha1 := as_tag_tagged
  have ha2 := as_tag_digested
  have hz := not_nil d p
  go_enter Try.func17, Try.ntmps17
  go_wp2
  go_ret
  exact ⟨rfl, by go_grown⟩

set_option maxRecDepth 100000 in
theorem rank_alln (d p t g : ByteArray) (w : World) (hp : p.toList.isEmpty = false) (hd : d.toList.isEmpty = true) (ht : t.toList.isEmpty = false) (hg : g.toList.isEmpty = false) : Calls Try.prog 17 #[.agg #[.string d, .string p, .string t, .string g]] w fun e w' => e = .returned (.int .i64 1) ∧ Below w.heap.size w w' := by
  have hn := rank_name
  have ha0 := as_all_named
  have ha1 := as_all_tagged
  have ha2 := as_all_digested
  go_enter Try.func17, Try.ntmps17
  go_wp2
  go_ret
  exact ⟨rfl, by go_grown⟩

set_option maxRecDepth 100000 in
theorem rank_alld (d p t g : ByteArray) (w : World) (hp : p.toList.isEmpty = false) (hd : d.toList.isEmpty = false) (c1 : ¬ 9223372036854775807 < d.size + 1) (c2 : ¬ 9223372036854775807 < d.size + 1 + p.size) (ht : t.toList.isEmpty = false) (hg : g.toList.isEmpty = false) : Calls Try.prog 17 #[.agg #[.string d, .string p, .string t, .string g]] w fun e w' => e = .returned (.int .i64 1) ∧ Below w.heap.size w w' := by
  have hn := rank_name
  have ha0 := as_all_named
  have ha1 := as_all_tagged
  have ha2 := as_all_digested
  have hz := not_nil d p
  go_enter Try.func17, Try.ntmps17
  go_wp2
  go_ret
  exact ⟨rfl, by go_grown⟩
end Go.Proofs.Ytknjengnipidoaa
