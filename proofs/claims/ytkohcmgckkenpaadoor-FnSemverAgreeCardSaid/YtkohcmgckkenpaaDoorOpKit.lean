/- What the walks of the semver package's constraint functions share. -/
import Derived.Test.YtkohcmgckkenpaaDoorVerD
import Derived.Test.YtkohcmgckkenpaaDoorNextAfter
import Derived.Test.YtkohcmgckkenpaaDoorGrow
import Derived.LaidEqlPtr
set_option linter.unusedVariables false
set_option linter.unusedSimpArgs false
namespace Go.Proofs.YtkohcmgckkenpaaDoor
open Go.RowKit

/-- The two versions and the constraint lie in memory. -/
structure CF (w : World) (g h k : Nat) (a b c : Int) (p m : ByteArray) (a' b' c' : Int) (p' m' op og : ByteArray) (mi di pa : Bool) : Prop where
  vg : Blk w g 67 (vcells a b c p m)
  vh : Blk w h 67 (vcells a' b' c' p' m')
  vk : Blk w k 79 #[.pointer (some ⟨h, 0, none⟩), .string og, .string op, .bool mi, .bool di, .bool pa]
  ne : g ≠ h
section
variable {g h k : Nat} {a b c : Int} {p m : ByteArray} {a' b' c' : Int} {p' m' op og : ByteArray} {mi di pa : Bool} {w w' : World}
theorem CF.below (s : CF w g h k a b c p m a' b' c' p' m' op og mi di pa) (hb : Below w.heap.size w w') : CF w' g h k a b c p m a' b' c' p' m' op og mi di pa := ⟨s.vg.below hb, s.vh.below hb, s.vk.below hb, s.ne⟩
theorem Blk.v6 (s : Blk w g 67 (vcells a b c p m)) : V6 w g a b c p m := ⟨s.cell 0, s.cell 1, s.cell 2, s.cell 3, s.cell 4, s.cell 5⟩
theorem CF.v1 (s : CF w g h k a b c p m a' b' c' p' m' op og mi di pa) : V6 w g a b c p m := s.vg.v6
theorem CF.v2 (s : CF w g h k a b c p m a' b' c' p' m' op og mi di pa) : V6 w h a' b' c' p' m' := s.vh.v6
theorem CF.cells (s : CF w g h k a b c p m a' b' c' p' m' op og mi di pa) : ∀ d os, (Go.Sort.grow (redrawn w d) os).cell? ⟨g, 0, none⟩ = some (.int .u64 a) ∧ (Go.Sort.grow (redrawn w d) os).cell? ⟨g, 1, none⟩ = some (.int .u64 b) ∧ (Go.Sort.grow (redrawn w d) os).cell? ⟨g, 2, none⟩ = some (.int .u64 c) ∧ (Go.Sort.grow (redrawn w d) os).cell? ⟨g, 3, none⟩ = some (.string p) ∧ (Go.Sort.grow (redrawn w d) os).cell? ⟨g, 4, none⟩ = some (.string m) ∧ (Go.Sort.grow (redrawn w d) os).cell? ⟨g, 5, none⟩ = some (.string ByteArray.empty) ∧ (Go.Sort.grow (redrawn w d) os).cell? ⟨h, 0, none⟩ = some (.int .u64 a') ∧ (Go.Sort.grow (redrawn w d) os).cell? ⟨h, 1, none⟩ = some (.int .u64 b') ∧ (Go.Sort.grow (redrawn w d) os).cell? ⟨h, 2, none⟩ = some (.int .u64 c') ∧ (Go.Sort.grow (redrawn w d) os).cell? ⟨h, 3, none⟩ = some (.string p') ∧ (Go.Sort.grow (redrawn w d) os).cell? ⟨h, 4, none⟩ = some (.string m') ∧ (Go.Sort.grow (redrawn w d) os).cell? ⟨h, 5, none⟩ = some (.string ByteArray.empty) ∧ (Go.Sort.grow (redrawn w d) os).cell? ⟨k, 0, none⟩ = some (.pointer (some ⟨h, 0, none⟩)) ∧ (Go.Sort.grow (redrawn w d) os).cell? ⟨k, 1, none⟩ = some (.string og) ∧ (Go.Sort.grow (redrawn w d) os).cell? ⟨k, 2, none⟩ = some (.string op) ∧ (Go.Sort.grow (redrawn w d) os).cell? ⟨k, 3, none⟩ = some (.bool mi) ∧ (Go.Sort.grow (redrawn w d) os).cell? ⟨k, 4, none⟩ = some (.bool di) ∧ (Go.Sort.grow (redrawn w d) os).cell? ⟨k, 5, none⟩ = some (.bool pa) := fun d os => by
  have t := s.below (below_regrown w d os)
  exact ⟨t.vg.cell 0, t.vg.cell 1, t.vg.cell 2, t.vg.cell 3, t.vg.cell 4, t.vg.cell 5, t.vh.cell 0, t.vh.cell 1, t.vh.cell 2, t.vh.cell 3, t.vh.cell 4, t.vh.cell 5, t.vk.cell 0, t.vk.cell 1, t.vk.cell 2, t.vk.cell 3, t.vk.cell 4, t.vk.cell 5⟩
theorem CF.each (s : CF w g h k a b c p m a' b' c' p' m' op og mi di pa) : (∀ d os, (Go.Sort.grow (redrawn w d) os).cell? ⟨g, 0, none⟩ = some (.int .u64 a)) ∧ (∀ d os, (Go.Sort.grow (redrawn w d) os).cell? ⟨g, 1, none⟩ = some (.int .u64 b)) ∧ (∀ d os, (Go.Sort.grow (redrawn w d) os).cell? ⟨g, 2, none⟩ = some (.int .u64 c)) ∧ (∀ d os, (Go.Sort.grow (redrawn w d) os).cell? ⟨g, 3, none⟩ = some (.string p)) ∧ (∀ d os, (Go.Sort.grow (redrawn w d) os).cell? ⟨g, 4, none⟩ = some (.string m)) ∧ (∀ d os, (Go.Sort.grow (redrawn w d) os).cell? ⟨g, 5, none⟩ = some (.string ByteArray.empty)) ∧ (∀ d os, (Go.Sort.grow (redrawn w d) os).cell? ⟨h, 0, none⟩ = some (.int .u64 a')) ∧ (∀ d os, (Go.Sort.grow (redrawn w d) os).cell? ⟨h, 1, none⟩ = some (.int .u64 b')) ∧ (∀ d os, (Go.Sort.grow (redrawn w d) os).cell? ⟨h, 2, none⟩ = some (.int .u64 c')) ∧ (∀ d os, (Go.Sort.grow (redrawn w d) os).cell? ⟨h, 3, none⟩ = some (.string p')) ∧ (∀ d os, (Go.Sort.grow (redrawn w d) os).cell? ⟨h, 4, none⟩ = some (.string m')) ∧ (∀ d os, (Go.Sort.grow (redrawn w d) os).cell? ⟨h, 5, none⟩ = some (.string ByteArray.empty)) ∧ (∀ d os, (Go.Sort.grow (redrawn w d) os).cell? ⟨k, 0, none⟩ = some (.pointer (some ⟨h, 0, none⟩))) ∧ (∀ d os, (Go.Sort.grow (redrawn w d) os).cell? ⟨k, 1, none⟩ = some (.string og)) ∧ (∀ d os, (Go.Sort.grow (redrawn w d) os).cell? ⟨k, 2, none⟩ = some (.string op)) ∧ (∀ d os, (Go.Sort.grow (redrawn w d) os).cell? ⟨k, 3, none⟩ = some (.bool mi)) ∧ (∀ d os, (Go.Sort.grow (redrawn w d) os).cell? ⟨k, 4, none⟩ = some (.bool di)) ∧ (∀ d os, (Go.Sort.grow (redrawn w d) os).cell? ⟨k, 5, none⟩ = some (.bool pa)) := by
  have hk := s.cells
  exact ⟨fun d os => (hk d os).1, fun d os => (hk d os).2.1, fun d os => (hk d os).2.2.1, fun d os => (hk d os).2.2.2.1, fun d os => (hk d os).2.2.2.2.1, fun d os => (hk d os).2.2.2.2.2.1, fun d os => (hk d os).2.2.2.2.2.2.1, fun d os => (hk d os).2.2.2.2.2.2.2.1, fun d os => (hk d os).2.2.2.2.2.2.2.2.1, fun d os => (hk d os).2.2.2.2.2.2.2.2.2.1, fun d os => (hk d os).2.2.2.2.2.2.2.2.2.2.1, fun d os => (hk d os).2.2.2.2.2.2.2.2.2.2.2.1, fun d os => (hk d os).2.2.2.2.2.2.2.2.2.2.2.2.1, fun d os => (hk d os).2.2.2.2.2.2.2.2.2.2.2.2.2.1, fun d os => (hk d os).2.2.2.2.2.2.2.2.2.2.2.2.2.2.1, fun d os => (hk d os).2.2.2.2.2.2.2.2.2.2.2.2.2.2.2.1, fun d os => (hk d os).2.2.2.2.2.2.2.2.2.2.2.2.2.2.2.2.1, fun d os => (hk d os).2.2.2.2.2.2.2.2.2.2.2.2.2.2.2.2.2⟩
end
/-- What Compare says of the two. -/
def CmpIs (g h k : Nat) (a b c : Int) (p m : ByteArray) (a' b' c' : Int) (p' m' op og : ByteArray) (mi di pa : Bool) (n : Int) : Prop := ∀ W, CF W g h k a b c p m a' b' c' p' m' op og mi di pa → Vars W → Calls Tryd.prog 60 #[.pointer (some ⟨g, 0, none⟩), .pointer (some ⟨h, 0, none⟩)] W fun e w' => e = .returned (.int .i64 n) ∧ Below W.heap.size W w'
/-- What comparePrerelease says of the two. -/
def PreIs (p p' : ByteArray) (n : Int) : Prop := ∀ W, Vars W → Calls Tryd.prog 59 #[.string p, .string p'] W fun e w' => e = .returned (.int .i64 n) ∧ Below W.heap.size W w'

theorem new_any (s : ByteArray) (w : World) : Calls Tryd.prog 54 #[.string s] w fun e w' => (∃ (t : TypeId) (q : Addr), e = .returned (.iface t (.pointer (some q)))) ∧ Below w.heap.size w w' := by
  go_enter Tryd.func54, Tryd.ntmps54
  go_wp2_with fail
  go_ret
  exact ⟨⟨_, _, rfl⟩, by go_grown⟩
theorem new_gr (s : ByteArray) (w : World) (d : Nat) (os : Array Obj) : Calls Tryd.prog 54 #[.string s] (Go.Sort.grow (redrawn w d) os) fun e w' => (∃ (t : TypeId) (q : Addr), e = .returned (.iface t (.pointer (some q)))) ∧ ∃ p : Regrown, w' = Go.Sort.grow (redrawn w p.d) p.os :=
  (new_any s _).mono fun _ _ ⟨he, hb⟩ => ⟨he, gr_of hb⟩

theorem info_ver : (Tryd.prog.info? 67).map (·.size) = some 6 := by kernel_rfl
theorem equal_inner (n : Int) (g h k : Nat) (a b c : Int) (p m : ByteArray) (a' b' c' : Int) (p' m' op og : ByteArray) (mi di pa : Bool) (w : World) (s : CF w g h k a b c p m a' b' c' p' m' op og mi di pa) (hv : Vars w) (hc : CmpIs g h k a b c p m a' b' c' p' m' op og mi di pa n) :
    Calls Tryd.prog 55 #[.pointer (some ⟨g, 0, none⟩), .pointer (some ⟨h, 0, none⟩)] w fun e w' => e = .returned (.bool (n == 0)) ∧ Below w.heap.size w w' := by
  have hc' := hc w s hv
  have HC := hid hc'
  obtain ⟨j, hj, hjs⟩ := Option.map_eq_some_iff.1 info_ver
  have he := run_eql_ptr_other (P := Tryd.prog) (w := w) (tp := 53) (a := ⟨g, 0, none⟩) (b := ⟨h, 0, none⟩) Tryd.underlying53 hj (by omega) (fun q => s.ne (by injection q)) s.vg s.vh
  clear hc hc' hj hjs
  go_enter Tryd.func55, Tryd.ntmps55
  go_wp2_with (go_at_call 60; refine HC.out.mono ?_; rintro e w' ⟨rfl, hb⟩)
  go_ret
  exact ⟨rfl, hb⟩

/-- A prerelease that is not let in. -/
def preBar (p : ByteArray) (pre : Bool) : Bool := !p.toList.isEmpty && !pre
theorem preBar_no {p : ByteArray} {pre : Bool} (h : preBar p pre = false) : p.toList.isEmpty = true ∨ (p.toList.isEmpty = false ∧ pre = true) := by
  unfold preBar at h
  cases h1 : p.toList.isEmpty <;> cases h2 : pre <;> simp_all
theorem preBar_yes {p : ByteArray} {pre : Bool} (h : preBar p pre = true) : p.toList.isEmpty = false ∧ pre = false := by
  unfold preBar at h
  cases h1 : p.toList.isEmpty <;> cases h2 : pre <;> simp_all
theorem rett {a b : Bool} {x : Value} (h : a = b) : Ending.returned (.tuple #[.bool a, x]) = .returned (.tuple #[.bool b, x]) := by rw [h]
end Go.Proofs.YtkohcmgckkenpaaDoor
